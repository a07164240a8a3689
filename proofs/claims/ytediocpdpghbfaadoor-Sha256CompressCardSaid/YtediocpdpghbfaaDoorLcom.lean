/- The law of Compress: the walk. -/
import Derived.Test.YtediocpdpghbfaaDoorEqub
import Derived.Test.YtediocpdpghbfaaDoorRegs
set_option linter.unusedSimpArgs false
set_option linter.unusedVariables false
namespace Go.Proofs.YtediocpdpghbfaaDoor
open Go Go.RowKit

attribute [local go_sem ↓] ld30 ld37
theorem load37_run {w : World} {S t : Nat} {st : List Nat} (h : Blk w S t (u8s st)) (hl : st.length = 64) :
    (loadAgg 37 (.pointer (some ⟨S, 0, none⟩))).run Tryd.prog w = .ok (.agg (u8s st)) w := by
  have := loadAgg_run (P := Tryd.prog) (w := w) (ty := 37) (g := S) (off := 0) (u8s st).toList Tryd.underlying37 rfl (by rw [Array.length_toList]; exact size37l st hl) (fun j v hv => by
    rw [Nat.zero_add, h.cell]; simpa using hv)
  simpa using this
theorem al37 : Tryd.prog.arrayLen 37 = 64 := by kernel_rfl
theorem el37 : Tryd.prog.elem 37 = 5 := by kernel_rfl
theorem sl37 (w : World) (g : Nat) : (Instr.sliceAt 37 (.pointer (some ⟨g, 0, none⟩)) none none none).run Tryd.prog w = .ok (.slice (some ⟨g, 0, none⟩) 64 64) w := by
  rw [run_sliceAt_array_all (P := Tryd.prog) (t := 37) w ⟨g, 0, none⟩ (by rw [al37, el37]; exact Tryd.underlying37), al37, el37, run_sizeOf5]
  simp [slicedAt, Result.andThen, Addr.add]
attribute [local go_sem ↓] sl37
theorem run_eql_st (w : World) (a b : List Nat) (ha : a.length = 8) (hb : b.length = 8) :
    (binOp .eql 30 (.agg (u32s a)) (.agg (u32s b))).run Tryd.prog w = .ok (.bool (decide (a = b))) w := by
  rw [run_eql_struct]
  rw [show (10000 : Nat) = 9998 + 1 + 1 from rfl, run_equalIn_u32s w a b ha hb]
  rfl
theorem guard_st (w : World) (x y : Operand) (a b : List Nat) :
    (eqGuard .eql 30 x y (.agg (u32s a)) (.agg (u32s b))).run Tryd.prog w = .ok () w := by
  have h : Tryd.prog.eqGuardType Tryd.prog.depth 30 = false := by kernel_rfl
  simp [eqGuard, h, program, Sem.run, Result.andThen]
theorem wp_binop {P : Program} {o : Oper} {a : Act} {w : World} {K : Act → World → Prop} {Q : Exit → Act → World → Prop} {op : BinOp} {t u : TypeId} {x y : Operand} {vx vy v : Value}
    (ho : o.op = .binOp op t x y u) (hx : a.eval x = vx) (hy : a.eval y = vy) (hg : (eqGuard op t x y vx vy).run P w = .ok () w) (hr : (binOp op t vx vy).run P w = .ok v w)
    (hk : K (a.put o.dst v) w) : o.wp P a w K Q := by
  subst hx; subst hy
  unfold Oper.wp execOp
  rw [ho]
  simp only [Sem.run_bind, hg, hr, Result.andThen_ok, Sem.run_pure, Oper.upon]
  exact hk
set_option maxRecDepth 100000 in
set_option maxHeartbeats 2000000 in
theorem law_com (w : World) (hT : Tabs w) (st b : List Nat) (hst : st.length = 8) (hS : Words st) (hb : b.length = 64) (hB : Bytes b) :
    Calls Tryd.prog 5 #[.agg (u32s st), .agg (u8s b)] w fun e w' => e = .returned (.bool true) ∧ Below w.heap.size w w' := by
  obtain ⟨W2, hW2⟩ : ∃ W2, W2 = (w.alloc (.cells (u32s st) 30)).alloc (.cells (u8s b) 37) := ⟨_, rfl⟩
  have F1 : Blk W2 w.heap.size 30 (u32s st) := by rw [hW2]; exact (Blk.new _ _ _).alloc _
  have F2 : Blk W2 (w.heap.size + 1) 37 (u8s b) := by rw [hW2]; exact Blk.new1 _ _ _ _
  have F3 : Below w.heap.size w W2 := by rw [hW2]; exact ((Below.refl _ _).alloc (Nat.le_refl _) _).alloc (by simp) _
  have F4 := hT.below F3 hT.two
  have hl := compress_length KK st b
  have HC := Lib.hid (fun W (h : Tabs W) => compress_any st b hst hS hb hB W h)
  have HR := Lib.hid (fun W g off cap h => refcomp_any st b hst hS hb hB W g off cap h)
  have HM := Lib.hid make_any
  generalize compress KK st b = d at *
  generalize TT = T at *
  have l1 := load30_run F1 hst
  have l2 := load30_run F1.drew hst
  have l3 := load37_run F2 hb
  have l4 := load37_run F2.drew hb
  have HE := Lib.hid (And.intro F1 (And.intro F2 (And.intro F3 F4))); clear F1 F2 F3 F4 hT
  go_enter Tryd.func5, Tryd.ntmps5
  go_wp2_with fail
  change Code.wp _ _ _ _ ((w.alloc (.cells (u32s st) 30)).alloc (.cells (u8s b) 37))
  rw [← hW2]
  clear hW2
  refine wp_region_segs [0, 0, 1, 3, 0, 0, 5, 6, 6, 7, 8, 8] 4 (by kernel_rfl) (by kernel_rfl) (fun _ _ d _ _ h => by cases d <;> exact h) (segs_go fun K hK => ?_)
  simp only [pickC, ↓reduceIte, Nat.reduceEqDiff, Nat.reduceAdd]
  go_wp2_with fail
  refine hK.out _ (seg_act fun K2 hK2 => ?_)
  clear hK K
  simp only [pickC, ↓reduceIte, Nat.reduceEqDiff, Nat.reduceAdd]
  go_wp2_with fail
  refine (HC.out _ HE.out.2.2.2.drew).mono ?_
  rintro e w6 ⟨rfl, B6⟩
  go_wp2_with fail
  refine hK2.out _ _ B6 (segs_go fun K hK => ?_)
  clear hK2 K2
  have H6 := Lib.hid B6
  clear B6
  simp only [pickC, ↓reduceIte, Nat.reduceEqDiff, Nat.reduceAdd]
  go_wp2_with fail
  refine hK.out _ (seg_act fun K2 hK2 => ?_)
  clear hK K
  simp only [pickC, ↓reduceIte, Nat.reduceEqDiff, Nat.reduceAdd]
  go_wp2_with fail
  refine (HM.out _).mono ?_
  rintro e w7 ⟨rfl, B7⟩
  go_wp2_with fail
  refine hK2.out _ _ B7 (segs_go fun K hK => ?_)
  clear hK2 K2
  have HX := Lib.hid (HR.out w7 (w.heap.size + 1) 0 64 (fun j hj => by rw [Nat.zero_add]; exact ((HE.out.2.1.drew.below H6.out HE.out.2.1.drew.lt).below B7 (Nat.lt_of_lt_of_le HE.out.2.1.drew.lt H6.out.size)).u8 (by rw [hb]; exact hj)))
  have H7 := Lib.hid B7
  clear B7
  simp only [pickC, ↓reduceIte, Nat.reduceEqDiff, Nat.reduceAdd]
  go_wp2_with fail
  refine hK.out _ (seg_act fun K2 hK2 => ?_)
  clear hK K
  simp only [pickC, ↓reduceIte, Nat.reduceEqDiff, Nat.reduceAdd]
  go_wp2_with fail
  refine HX.out.mono ?_
  rintro e w8 ⟨rfl, B8⟩
  have t8 : Tabs w8 := by
    have t6 : Tabs w6 := HE.out.2.2.2.drew.below H6.out HE.out.2.2.2.two
    have t7 : Tabs w7 := t6.below H7.out t6.two
    exact t7.below B8 t7.two
  go_wp2_with fail
  refine hK2.out _ _ B8 (segs_go fun K hK => ?_)
  clear hK2 K2
  have H8 := Lib.hid (And.intro B8 t8)
  clear B8 t8
  simp only [pickC, ↓reduceIte, Nat.reduceEqDiff, Nat.reduceAdd]
  go_step
  refine wp_binop rfl rfl rfl (guard_st _ _ _ d d) (run_eql_st _ d d hl hl) ?_
  have ed : decide (d = d) = true := by simp
  rw [ed]
  go_wp2_with fail
  refine hK.out _ (seg_act fun K2 hK2 => ?_)
  clear hK K
  simp only [pickC, ↓reduceIte, Nat.reduceEqDiff, Nat.reduceAdd]
  go_wp2_with fail
  refine (known_any w8 H8.out.2).mono ?_
  rintro e w9 ⟨rfl, B9⟩
  go_wp2_with fail
  refine hK2.out _ _ B9 (segs_end fun K hK => ?_)
  clear hK2 K2
  have H9 := Lib.hid B9
  clear B9
  simp only [pickC, ↓reduceIte, Nat.reduceEqDiff, Nat.reduceAdd]
  go_wp2_with fail
  refine hK.out _ ?_
  go_wp2_with fail
  all_goals
    have k5 := HE.out.2.2.1.size
    have k6 := H6.out.size
    have k7 := H7.out.size
    have k8 := H8.out.1.size
    refine bodyPost_ret (v := .bool true) ?_ rfl ⟨rfl, (HE.out.2.2.1.drew.trans (H6.out.mono k5)).trans ((H7.out.mono (Nat.le_trans k5 k6)).trans ((H8.out.1.mono (Nat.le_trans k5 (Nat.le_trans k6 k7))).trans (H9.out.mono (Nat.le_trans k5 (Nat.le_trans k6 (Nat.le_trans k7 k8))))))⟩
    kernel_rfl
end Go.Proofs.YtediocpdpghbfaaDoor
