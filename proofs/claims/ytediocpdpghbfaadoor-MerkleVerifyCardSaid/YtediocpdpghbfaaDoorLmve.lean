/- The law of MerkleVerify: the walk. -/
import Derived.Test.YtediocpdpghbfaaDoorMrve
import Derived.Test.YtediocpdpghbfaaDoorMkno
import Derived.Deep.DeepCutAuto
set_option linter.unusedSimpArgs false
set_option linter.unusedVariables false
namespace Go.Proofs.YtediocpdpghbfaaDoor
open Go Go.RowKit

theorem lv_rowT {w : World} {base n cap e : Nat} {A : Option Addr} {xs : List Value} {cs0 : Array Value} (h : OW w base 25 32 A n cap xs) (hE : Blk w e 24 cs0) (cs : Array Value) : LV (w.setRow e cs) A xs := by
  refine OW.lv (base := base) (E := 25) (sz := 32) (n := n) (cap := cap) ⟨h.1, ?_⟩
  rcases h.2 with h2 | ⟨k, cap', cur, hv, hk, hh, h3, h4, h5, h6⟩
  · exact .inl h2
  · refine .inr ⟨k, cap', cur, hv, hk, (setRow_other _ _ _ _ ?_).trans hh, h3, h4, h5, h6⟩
    rintro rfl
    unfold Blk at hE
    rw [hE] at hh
    injection hh with hh
    injection hh with _ hh
    cases hh
def badI (n i : Int) : Bool := decide (n < 1 ∨ 65536 < n ∨ i < 0 ∨ n ≤ i)
def verifyI (root : List Nat) (n i : Int) (leaf : List Nat) (ps : List (List Nat)) : Int := if badI n i = true then 2 else verifyL root n.toNat i.toNat leaf ps
theorem badI_no {n i : Int} (h : badI n i = false) : ∃ a b : Nat, n = a ∧ i = b ∧ 1 ≤ a ∧ a ≤ 65536 ∧ b < a := by
  unfold badI at h
  rw [decide_eq_false_iff_not] at h
  exact ⟨n.toNat, i.toNat, by omega, by omega, by omega, by omega, by omega⟩
theorem mverify_all (w : World) (hT : Tabs w) (root : List Nat) (hr : root.length = 32) (n i : Int) (leaf : List Nat) (A : Option Addr) (m cap : Nat) (hm : leaf.length = m) (hcap : m ≤ cap) (hm2 : m ≤ 2000) (hB : Bytes leaf) (hR : RW w A cap leaf)
    (ps : List (List Nat)) (P : Option Addr) (k pc : Nat) (hk : ps.length = k) (hk2 : k ≤ 65536) (hd : Digs ps) (hP : LV w P (hcell ps)) :
    Calls Tryd.prog 53 #[.agg (u8s root), .int .i64 n, .int .i64 i, .slice A m cap, .slice P k pc] w fun e w' => e = .returned (.int .i64 (verifyI root n i leaf ps)) ∧ Below w.heap.size w w' := by
  unfold verifyI
  cases hb : badI n i with
  | true => rw [if_pos rfl]; exact mverify_bad w _ ⟨_, rfl⟩ n i (by unfold badI at hb; exact of_decide_eq_true hb) _ _
  | false =>
    obtain ⟨a, b, rfl, rfl, h1, h2, h3⟩ := badI_no hb
    rw [if_neg (by simp)]
    exact mverify_any w hT root hr a b h1 h2 h3 leaf A m cap hm hcap hm2 hB hR ps P k pc hk hk2 hd hP
theorem rverify_all (w : World) (root : List Nat) (hr : root.length = 32) (n i : Int) (leaf : List Nat) (A : Option Addr) (m cap : Nat) (hm : leaf.length = m) (hcap : m ≤ cap) (hm2 : m ≤ 2000) (hB : Bytes leaf) (hR : RW w A cap leaf)
    (ps : List (List Nat)) (P : Option Addr) (k pc : Nat) (hk : ps.length = k) (hk2 : k ≤ 65536) (hkp : k ≤ pc) (hpc : pc ≤ 9223372036854775807) (hd : Digs ps) (hP : LV w P (hcell ps)) :
    Calls Tryd.prog 54 #[.agg (u32s TT), .agg (u8s root), .int .i64 n, .int .i64 i, .slice A m cap, .slice P k pc] w fun e w' => e = .returned (.int .i64 (verifyI root n i leaf ps)) ∧ Below w.heap.size w w' := by
  unfold verifyI
  cases hb : badI n i with
  | true => rw [if_pos rfl]; exact rverify_bad w root n i (by unfold badI at hb; exact of_decide_eq_true hb) _ _
  | false =>
    obtain ⟨a, b, rfl, rfl, h1, h2, h3⟩ := badI_no hb
    rw [if_neg (by simp)]
    exact rverify_any w root hr a b h1 h2 h3 leaf A m cap hm hcap hm2 hB hR ps P k pc hk hk2 hkp hpc hd hP
/-- the state of the law behind its loop's rounds -/
structure MvSt (w W : World) (gt g8 base : Nat) (root : List Nat) (P : Option Addr) (k pc : Nat) (ps : List (List Nat)) : Prop where
  t : Blk W gt 32 (u32s TT)
  r : Blk W g8 25 (u8s root)
  o : OW W base 25 32 P k pc (hcell ps)
  a : At w W
theorem MvSt.step {w W W' : World} {gt g8 base : Nat} {root : List Nat} {P : Option Addr} {k pc : Nat} {ps : List (List Nat)} (h : MvSt w W gt g8 base root P k pc ps) (b : Below W.heap.size W W') : MvSt w W' gt g8 base root P k pc ps :=
  ⟨h.t.below b h.t.lt, h.r.below b h.r.lt, h.o.below' b, h.a.step b⟩
theorem MvSt.row {w W : World} {gt g8 base : Nat} {root : List Nat} {P : Option Addr} {k pc : Nat} {ps : List (List Nat)} (h : MvSt w W gt g8 base root P k pc ps) (h1 : gt ≠ g8) (h2 : g8 < base) (h3 : w.heap.size ≤ g8) (root' : List Nat) : MvSt w (W.setRow g8 (u8s root')) gt g8 base root' P k pc ps :=
  ⟨h.t.farRow h1 _, h.r.setRow _, h.o.setRow' h2 _, at_rowT h.a h3 _⟩
/-- the leaf -/
structure LfOk (w : World) (leaf : List Nat) (L : Option Addr) (m c : Nat) : Prop where
  len : leaf.length = m
  le : m ≤ c
  m40 : m ≤ 40
  b : Bytes leaf
  r : RW w L c leaf
theorem digL_ok (b : List Nat) (hB : Bytes b) : (digL b).length = 32 ∧ Bytes (digL b) := ⟨digL_length b, digL_bytes b hB⟩
def alc25 : Sem Value := Instr.alloc 25 true (.tuple #[])
theorem alc25_rule : Instr.alloc 25 true (.tuple #[]) = alc25 := rfl
theorem alc25_run (w : World) : alc25.run Tryd.prog w = .ok (.pointer (some ⟨w.heap.size, 0, none⟩)) (w.alloc (.cells (u8s (zer 32)) 25)) := by
  have h := info25
  unfold alc25 Instr.alloc
  cases hq : Tryd.prog.info? 25 with
  | none => rw [hq] at h; cases h
  | some i =>
    rw [hq] at h
    simp only [Option.map_some, Option.some.injEq, Prod.mk.injEq] at h
    simp [newVar, newRow, zeroValue, typeInfo, hq, h.1, Value.cells]
theorem sl41_hG (A : Option Addr) (n cap k : Nat) (hk : k ≤ cap) (w : World) :
    (Instr.sliceAt 41 (.slice A n cap) none (some (.int .i64 (k : Int))) none).run Tryd.prog w = .ok (.slice A k cap) w := by
  have hs := size22
  rw [run_sliceAt_slice w 41 _ _ _ _ (by rw [elem41]; exact Tryd.underlying41), run_slice_h w 41 _ n cap (by rw [elem41]; exact Tryd.underlying41) .i64 k (by omega) (by omega)]
  cases hq : Tryd.prog.info? 22 with
  | none => simp [hq] at hs
  | some i =>
    have hi : i.size = 1 := by simpa [hq] using hs
    cases A <;> simp [elem41, sizeOf, typeInfo, hq, hi, sliced, Addr.add]
attribute [local go_sem ↓] ld25 st25 ld32 st32 ld24 st24 bs67_rule alc24_rule alc25_rule
attribute [local go_sem] bs67_run alc24_run alc25_run
set_option maxRecDepth 100000 in
set_option maxHeartbeats 8000000 in
theorem law_merkleVerify (w : World) (hT : Tabs w) (z0 z1 : Int) (q : List (List Nat)) (A : Option Addr) (ca n : Nat) (ln : q.length = n) (ha : n ≤ ca) (hca : ca ≤ 9223372036854775807) (hp : PW w A q) :
    Calls Tryd.prog 14 #[.int .i64 z0, .int .i64 z1, .slice A n ca] w fun e w' => e = .returned (.bool true) ∧ Below w.heap.size w w' := by
  have H0 := Lib.hid (And.intro hT (And.intro ln hp))
  clear hT ln hp
  obtain ⟨m, hm⟩ : ∃ m, min n 20 = m := ⟨_, rfl⟩
  have hmI : min (n : Int) 20 = (m : Int) := by omega
  have hmn : m ≤ n := by omega
  have hm20 : m ≤ 20 := by omega
  have HM := Lib.hid hm
  clear hm
  have slA := fun W => sl41_hG A n ca m (by omega) W
  go_enter Tryd.func14, Tryd.ntmps14
  go_wp2_with fail
  refine (mknown_any _ H0.out.1).mono ?_
  rintro e w1 ⟨rfl, B1⟩
  have A1 := Lib.hid (At.mk H0.out.1 B1)
  clear B1
  go_wp2_with fail
  refine (rmake_any _).mono ?_
  rintro e w2 ⟨rfl, B2⟩
  have A2 := Lib.hid (A1.out.step B2)
  clear B2 A1
  go_upto_region 4 with (refine wpList_fillM rfl 32 (.tmp 7) (.tmp 16) rfl (u32s TT) rfl rfl (size32 _ TT_length) (by rw [u32s_size, TT_length]; rfl) (u32s_one _) ?_; intro w3 E3 B3; have A3 := Lib.hid (And.intro E3 (A2.out.step B3)); clear E3 B3)
  have hgw : w.heap.size ≤ w2.heap.size := A2.out.le
  generalize w2.heap.size = gt at *
  clear A2
  rw [show ∀ (a : Act) (v : Value), a.put none v = a from fun _ _ => rfl]
  go_cut [2] (fun v0 wx => v0 = .slice A m ca ∧ wx = w3)
  case first =>
    by_cases h20 : n ≤ 20
    · obtain rfl : m = n := by have := HM.out; omega
      have t0 : (m : Int) ≤ 20 := by omega
      go_wp2_with fail
      go_meet
      exact ⟨rfl, rfl⟩
    · obtain rfl : m = 20 := by have := HM.out; omega
      have t0 : ¬ (n : Int) ≤ 20 := by omega
      go_wp2_with fail
      go_meet
      exact ⟨rfl, rfl⟩
  case rest =>
  obtain ⟨rfl, rfl⟩ := hcut
  clear slA hmI
  have hg3 : gt < wc.heap.size := A3.out.1.lt
  have Z := Lib.hid (show MvSt w (wc.alloc (.cells (u8s (zer 32)) 25)) gt wc.heap.size (wc.heap.size + 1) (zer 32) none 0 0 [] from ⟨A3.out.1.alloc _, Blk.new _ _ _, ow_nil _ _ _ _, A3.out.2.step ((Below.refl _ _).alloc (Nat.le_refl _) _)⟩)
  clear A3
  go_wp2_with fail
  generalize wc.alloc (.cells (u8s (zer 32)) 25) = w4 at *
  generalize wc.heap.size = g8 at *
  go_loopg [11, 9, 10] m (fun f iv lv pv wr => ∃ (i : Nat) (root leaf : List Nat) (L P : Option Addr) (ml cl k pc : Nat) (ps : List (List Nat)), i + f = m ∧ iv = .int .i64 i ∧ lv = .slice L ml cl ∧ pv = .slice P k pc ∧ LfOk w leaf L ml cl ∧ root.length = 32 ∧ Bytes root ∧ ps.length = k ∧ k ≤ i ∧ Digs ps ∧ MvSt w wr gt g8 (g8 + 1) root P k pc ps)
  case atStart => exact ⟨0, zer 32, [], none, none, 0, 0, 0, 0, [], by omega, rfl, rfl, rfl, ⟨rfl, Nat.le_refl _, by omega, Bytes.nil, rw_nil w⟩, by decide, zer_bytes 32, rfl, Nat.le_refl _, Digs.nil, Z.out⟩
  case round =>
    clear Z
    obtain ⟨i, root, leaf, L, P, ml, cl, k, pc, ps, hif, rfl, rfl, rfl, hL, hr, hrB, hk, hki, hd, M⟩ := hrel
    by_cases hi : i < m
    · rcases H0.out.2.2 with hnil | ⟨g, off, rfl, hg, hc⟩
      · have := H0.out.2.1; rw [hnil] at this; simp at this; omega
      obtain ⟨Aj, cj, c1, c2, c3, c4, c5⟩ := hc i (by rw [H0.out.2.1]; omega)
      obtain ⟨x, hx⟩ : ∃ x, (q.getD i []).length = x := ⟨_, rfl⟩
      rw [hx] at c1 c2
      have d1 := (M.a.b.cell (p := ⟨g, off + i, none⟩) hg).trans c1
      have dd1 := (M.a.drew.b.cell (p := ⟨g, off + i, none⟩) hg).trans c1
      have hdo := digL_ok (q.getD i []) c4
      have HD := Lib.hid (fun W (s : At w W) => digest_any W (q.getD i []) Aj x cj hx c2 c4 (c5.below s.b))
      have HE := Lib.hid (And.intro hif (And.intro hL (And.intro hr (And.intro hrB (And.intro hk (And.intro hd (And.intro M (And.intro c4 (And.intro c5 hx)))))))))
      clear hif hL hr hrB hk hd M hc c4 c5 hx c1
      generalize digL (q.getD i []) = dg at *
      have t0 : i < m := hi
      rcases Nat.lt_or_ge i 2 with h2 | h2
      · rcases Nat.eq_zero_or_pos i with h0 | h0
        · have t1 : ((i : Int) == 0) = true := by rw [beq_iff_eq]; omega
          have H0' := Lib.hid h0
          clear h0 h2
          go_wp2_with fail
          refine (HD.out _ HE.out.2.2.2.2.2.2.1.a).mono ?_
          rintro e w5 ⟨rfl, B5⟩
          have M5 := Lib.hid (HE.out.2.2.2.2.2.2.1.step B5)
          have s5 := store25_run M5.out.r HE.out.2.2.1 hdo.1
          clear B5 HD
          go_wp2_with fail
          go_roundg (gk - 1)
          case measure => have := HE.out.1; omega
          case rel =>
            obtain ⟨hif, hL, hr, hrB, hk, hd, M, c4, c5, hx⟩ := HE.out
            exact ⟨i + 1, dg, leaf, L, P, ml, cl, k, pc, ps, by omega, by go_num, rfl, rfl, hL, hdo.1, hdo.2, hk, by omega, hd, M5.out.row (by omega) (by omega) (by omega) _⟩
        · have t1 : ((i : Int) == 0) = false := by rw [beq_eq_false_iff_ne]; omega
          have t2 : ((i : Int) == 1) = true := by rw [beq_iff_eq]; omega
          have HK := Lib.hid (And.intro h2 h0)
          clear h2 h0 HD
          rcases Nat.lt_or_ge 40 x with h40 | h40
          · have hkc : 40 ≤ cj := by omega
            have sl := fun W => sl22_h Aj x cj 40 hkc W
            go_wp2_with fail
            refine wp_region_sego [0, 0, 0, 0, 0, 0, 0, 0, 0, 1, 2, 2] [false] (by kernel_rfl) (by kernel_rfl) (fun _ _ d _ _ h => by cases d <;> exact h) (sego_go fun K0 hK0 => ?_)
            simp only [pickC, ↓reduceIte, Nat.reduceEqDiff, Nat.reduceAdd]
            go_wp2_with fail
            refine hK0.out _ (sego_act fun K2 hK2 => ?_)
            clear hK0 K0
            simp only [pickC, ↓reduceIte, Nat.reduceEqDiff, Nat.reduceAdd]
            go_wp2_with fail
            refine hK2.out _ _ (Below.refl _ _) (sego_end fun K0 hK0 => ?_)
            clear hK2 K2
            simp only [pickC, ↓reduceIte, Nat.reduceEqDiff, Nat.reduceAdd]
            go_wp2_with fail
            refine hK0.out _ ?_
            clear hK0 K0
            go_wp2_with fail
            go_roundg (gk - 1)
            case measure => have := HE.out.1; omega
            case rel =>
              obtain ⟨hif, hL, hr, hrB, hk, hd, M, c4, c5, hx⟩ := HE.out
              have hk0 := HK.out
              exact ⟨i + 1, root, (q.getD i []).take 40, Aj, P, 40, cj, k, pc, ps, by omega, by go_num, rfl, rfl, ⟨by rw [List.length_take, hx]; omega, hkc, by omega, bytes_take c4 40, rw_take c5 40⟩, hr, hrB, hk, by omega, hd, M.step (Below.refl _ _).drew⟩
          · have hkc : x ≤ cj := by omega
            have sl := fun W => sl22_h Aj x cj x hkc W
            go_wp2_with fail
            refine wp_region_sego [0, 0, 0, 0, 0, 0, 0, 0, 0, 1, 2, 2] [false] (by kernel_rfl) (by kernel_rfl) (fun _ _ d _ _ h => by cases d <;> exact h) (sego_go fun K0 hK0 => ?_)
            simp only [pickC, ↓reduceIte, Nat.reduceEqDiff, Nat.reduceAdd]
            go_wp2_with fail
            refine hK0.out _ (sego_act fun K2 hK2 => ?_)
            clear hK0 K0
            simp only [pickC, ↓reduceIte, Nat.reduceEqDiff, Nat.reduceAdd]
            go_wp2_with fail
            refine hK2.out _ _ (Below.refl _ _) (sego_end fun K0 hK0 => ?_)
            clear hK2 K2
            simp only [pickC, ↓reduceIte, Nat.reduceEqDiff, Nat.reduceAdd]
            go_wp2_with fail
            refine hK0.out _ ?_
            clear hK0 K0
            go_wp2_with fail
            go_roundg (gk - 1)
            case measure => have := HE.out.1; omega
            case rel =>
              obtain ⟨hif, hL, hr, hrB, hk, hd, M, c4, c5, hx⟩ := HE.out
              have hk0 := HK.out
              exact ⟨i + 1, root, (q.getD i []).take 40, Aj, P, x, cj, k, pc, ps, by omega, by go_num, rfl, rfl, ⟨by rw [List.length_take, hx]; omega, hkc, by omega, bytes_take c4 40, rw_take c5 40⟩, hr, hrB, hk, by omega, hd, M.step (Below.refl _ _).drew⟩
      · have t1 : ((i : Int) == 0) = false := by rw [beq_eq_false_iff_ne]; omega
        have t2 : ((i : Int) == 1) = false := by rw [beq_eq_false_iff_ne]; omega
        have HK := Lib.hid h2
        clear h2
        go_wp2_with fail
        refine (HD.out _ HE.out.2.2.2.2.2.2.1.a).mono ?_
        rintro e w5 ⟨rfl, B5⟩
        have M5 := Lib.hid (HE.out.2.2.2.2.2.2.1.step B5)
        have hd32 := hdo.1
        clear B5 HD
        have b1 := bs67_run dg hd32
        go_wp2_with (at_builtin; refine wpList_appW 67 25 (.agg (u8s (zer 32))) 32 32 Tryd.underlying67 info25 rfl (by decide) rfl (.tmp 29) (.tmp 35) rfl (g8 + 1) P k pc (hcell ps) rfl (M5.out.o.alloc _) (some ⟨w5.heap.size, 0, none⟩) 1 1 (bvals dg) rfl (by rw [bvals_length, hd32]) (by intro e; cases e) (by rw [← u8s_bvals]; exact lv_blk (Blk.new w5 25 (u8s dg))) (bvals_one dg) (by omega) (by omega) (by have := M5.out.r.lt; simp; omega) ?_; intro P1 c1 w6 O6 B6; have H6 := Lib.hid (And.intro O6 B6); clear O6 B6)
        go_roundg (gk - 1)
        case measure => have := HE.out.1; omega
        case rel =>
          obtain ⟨hif, hL, hr, hrB, hk, hd, M, c4, c5, hx⟩ := HE.out
          obtain ⟨O6, B6⟩ := H6.out
          have l8 := M5.out.r.lt
          have lt := M5.out.t.lt
          exact ⟨i + 1, root, leaf, L, P1, ml, cl, k + 1, c1, ps ++ [dg], by omega, by go_num, rfl, rfl, hL, hr, hrB, by rw [List.length_append, hk]; rfl, by omega, hd.snoc hdo.1 hdo.2,
            ⟨(M5.out.t.alloc _).below B6 (by omega), (M5.out.r.alloc _).below B6 (by omega), by rw [hcell_snoc]; exact O6, ⟨M5.out.a.t0, ((M5.out.a.b).alloc M5.out.a.le _).trans (B6.mono (by omega))⟩⟩⟩
    · obtain rfl : i = m := by omega
      have HE := Lib.hid (And.intro hL (And.intro hr (And.intro hrB (And.intro hk (And.intro hd (And.intro M M.o.cap'))))))
      have hk20 : k ≤ 20 := by omega
      clear hL hr hrB hk hd M hi hif hki
      go_wp2_with fail
      have M := Lib.hid (HE.out.2.2.2.2.2.1.step (Below.refl _ _).drew)
      have l1 := load25_run M.out.r HE.out.2.1
      have l2 := load32_run M.out.t
      refine wp_region_pv (.still [false, true, true, true, true, false, false, false, true, true, true, true, false, false, false] (.look [true, false, false, false, false, false, true, true, false, false, false, false, false, false, false] (.act [false, false, false, false, false, true, false, false, false, false, false, false, false, false, false] (.act [false, false, false, false, false, false, false, false, false, false, false, false, true, false, false] (.last [false, false, false, false, false, false, false, false, false, false, false, false, false, true, false] (.look [false, false, false, false, false, false, false, false, false, false, false, false, false, false, true] .stop)))))) (by kernel_rfl) (by kernel_rfl) (fun _ _ d _ _ h => by cases d <;> exact h) ?_
      generalize wr.drew = V at *
      refine sv_still fun K0 hK0 => ?_
      simp only [pickM]
      go_wp2_with fail
      refine hK0.out _ ?_
      clear hK0 K0
      refine sv_look fun K0 hK0 => ?_
      simp only [pickM]
      go_wp2_with fail
      refine hK0.out _ ?_
      clear hK0 K0
      refine sv_act fun K2 hK2 => ?_
      simp only [pickM]
      go_wp2_with fail
      refine (mverify_all _ M.out.a.t root HE.out.2.1 z0 z1 leaf L ml cl HE.out.1.len HE.out.1.le (by have := HE.out.1.m40; omega) HE.out.1.b (HE.out.1.r.below M.out.a.b) ps P k pc HE.out.2.2.2.1 (by omega) HE.out.2.2.2.2.1 M.out.o.lv).mono ?_
      rintro e x1 ⟨rfl, hBelow⟩
      have M := Lib.hid (M.out.step hBelow)
      go_wp2_with fail
      have hsx1 := Lib.hid (show Sof (some V) x1 from hBelow)
      refine hK2.out _ _ hsx1.out ?_
      clear hK2 K2 hBelow
      refine sv_act fun K2 hK2 => ?_
      simp only [pickM]
      go_wp2_with fail
      refine (to_any _ ps P k pc HE.out.2.2.2.1 HE.out.2.2.2.2.1 (by omega) M.out.o.lv).mono ?_
      rintro e x2 ⟨TA, tc, rfl, OT, hBelow⟩
      have HT := Lib.hid (And.intro OT.lv OT.cap')
      clear OT
      have M := Lib.hid (M.out.step hBelow)
      go_wp2_with fail
      have hsx2 := Lib.hid (Sof.step hsx1.out hBelow)
      refine hK2.out _ _ hsx2.out ?_
      clear hK2 K2 hBelow
      refine sv_last fun K2 hK2 => ?_
      simp only [pickM]
      go_wp2_with fail
      refine (rverify_all _ root HE.out.2.1 z0 z1 leaf L ml cl HE.out.1.len HE.out.1.le (by have := HE.out.1.m40; omega) HE.out.1.b (HE.out.1.r.below M.out.a.b) ps TA k tc HE.out.2.2.2.1 (by omega) HT.out.2.1 (by have := HT.out.2.2; unfold maxLen at this; omega) HE.out.2.2.2.2.1 HT.out.1).mono ?_
      rintro e x3 ⟨rfl, hBelow⟩
      have M := Lib.hid (M.out.step hBelow)
      have HT := Lib.hid (And.intro (HT.out.1.below hBelow) HT.out.2)
      go_wp2_with fail
      refine hK2.out _ _ ?_
      clear hK2 K2 hBelow
      refine sv_look fun K0 hK0 => ?_
      simp only [pickM]
      go_wp2_with fail
      refine hK0.out _ ?_
      clear hK0 K0
      change Exit.then _ _ _ _ _
      clear l1 l2 HT
      cases hb : badI z0 z1 with
      | true =>
        have hb' := hb
        unfold badI at hb'
        rw [decide_eq_true_iff] at hb'
        have hb4 : z0 < 1 ∨ (¬ z0 < 1 ∧ 65536 < z0) ∨ (¬ z0 < 1 ∧ ¬ 65536 < z0 ∧ z1 < 0) ∨ (¬ z0 < 1 ∧ ¬ 65536 < z0 ∧ ¬ z1 < 0 ∧ z0 ≤ z1) := by omega
        clear hb hb'
        rcases hb4 with h1 | ⟨h1, h2⟩ | ⟨h1, h2, h3⟩ | ⟨h1, h2, h3, h4⟩
        all_goals
          go_wp2_with fail
          go_ret
          exact ⟨rfl, M.out.a.b⟩
      | false =>
        obtain ⟨a, b, rfl, rfl, h1, h2, h3⟩ := badI_no hb
        have t1 : ¬ (a : Int) < 1 := by omega
        have t2 : ¬ (65536 : Int) < a := by omega
        have t3 : ¬ (b : Int) < 0 := by omega
        have t4 : ¬ (a : Int) ≤ b := by omega
        have HB := Lib.hid hb
        clear hb
        go_wp2_with fail
        have M := Lib.hid (M.out.step (Below.refl _ _).drew)
        have l2 := load32_run M.out.t
        obtain ⟨y0, hpq⟩ : ∃ y0, pathL a b (leafL leaf) ps = y0 := ⟨_, rfl⟩
        obtain ⟨x, y⟩ := y0
        have hxo := pathL_ok a b (leafL leaf) ps h1 h3 (leafL_length _) (sha_bytes _) HE.out.2.2.2.2.1
        rw [hpq] at hxo
        simp only at hxo
        have HQ := Lib.hid hpq
        refine wp_region_pv (.still [false, true, true, false, true, false, true, false, false, false, false, false, false, false, false] (.look [true, false, false, true, false, false, false, false, false, false, false, false, false, false, false] (.fork [false, false, false, false, false, true, false, false, false, false, false, false, false, false, false] (.fork [false, false, false, false, false, false, false, true, false, false, false, false, false, false, false] (.fork [false, false, false, false, false, false, false, false, true, false, false, false, false, false, false] (.still [false, false, false, false, false, false, false, false, false, true, true, true, false, false, false] (.act [false, false, false, false, false, false, false, false, false, false, false, false, true, false, false] (.act [false, false, false, false, false, false, false, false, false, false, false, false, false, true, false] (.still [false, false, false, false, false, false, false, false, false, false, false, false, false, false, true] .stop)))) (.act [false, false, false, false, false, false, false, false, false, false, false, false, true, false, false] (.act [false, false, false, false, false, false, false, false, true, false, false, false, false, false, false] (.still [false, false, false, false, false, false, false, false, false, true, true, true, false, false, false] (.act [false, false, false, false, false, false, false, false, false, false, false, false, false, true, false] (.still [false, false, false, false, false, false, false, false, false, false, false, false, false, false, true] .stop)))))) (.act [false, false, false, false, false, false, false, false, false, false, false, false, true, false, false] (.act [false, false, false, false, false, false, false, true, false, false, false, false, false, false, false] (.act [false, false, false, false, false, false, false, false, true, false, false, false, false, false, false] (.still [false, false, false, false, false, false, false, false, false, true, true, true, false, false, false] (.act [false, false, false, false, false, false, false, false, false, false, false, false, false, true, false] (.still [false, false, false, false, false, false, false, false, false, false, false, false, false, false, true] .stop))))))) (.act [false, false, false, false, false, false, false, false, false, false, false, false, true, false, false] (.act [false, false, false, false, false, true, false, false, false, false, false, false, false, false, false] (.act [false, false, false, false, false, false, false, true, false, false, false, false, false, false, false] (.act [false, false, false, false, false, false, false, false, true, false, false, false, false, false, false] (.still [false, false, false, false, false, false, false, false, false, true, true, true, false, false, false] (.act [false, false, false, false, false, false, false, false, false, false, false, false, false, true, false] (.still [false, false, false, false, false, false, false, false, false, false, false, false, false, false, true] .stop)))))))))) (by kernel_rfl) (by kernel_rfl) (fun _ _ d _ _ h => by cases d <;> exact h) ?_
        generalize x3.drew = V at *
        refine sv_still fun K0 hK0 => ?_
        simp only [pickM]
        go_wp2_with fail
        refine hK0.out _ ?_
        clear hK0 K0
        refine sv_look fun K0 hK0 => ?_
        simp only [pickM]
        go_wp2_with fail
        refine hK0.out _ ?_
        clear hK0 K0
        refine sv_fork (fun K2 hK2 => ?_) ?_
        · simp only [pickM]
          go_wp2_with fail
          refine (rleaf_any _ leaf L ml cl HE.out.1.len HE.out.1.le (by have := HE.out.1.m40; omega) HE.out.1.b (HE.out.1.r.below M.out.a.b)).mono ?_
          rintro e x51 ⟨rfl, hBelow⟩
          have M := Lib.hid (M.out.step hBelow)
          go_wp2_with fail
          have hsx51 := Lib.hid (show Sof (some V) x51 from hBelow)
          refine hK2.out _ _ hsx51.out ?_
          clear hK2 K2 hBelow
          refine sv_fork (fun K2 hK2 => ?_) ?_
          · simp only [pickM]
            go_wp2_with fail
            refine (to_any _ ps P k pc HE.out.2.2.2.1 HE.out.2.2.2.2.1 (by omega) M.out.o.lv).mono ?_
            rintro e x52 ⟨TA, tc, rfl, OT, hBelow⟩
            have HT := Lib.hid (And.intro OT.lv OT.cap')
            clear OT
            have M := Lib.hid (M.out.step hBelow)
            go_wp2_with fail
            have hsx52 := Lib.hid (Sof.step hsx51.out hBelow)
            refine hK2.out _ _ hsx52.out ?_
            clear hK2 K2 hBelow
            refine sv_fork (fun K2 hK2 => ?_) ?_
            · simp only [pickM]
              go_wp2_with fail
              refine (rpath_any a b (leafL leaf) ps _ TA k tc h1 h2 h3 (leafL_length _) (sha_bytes _) HE.out.2.2.2.1 (by omega) HT.out.2.1 (by have := HT.out.2.2; unfold maxLen at this; omega) HE.out.2.2.2.2.1 HT.out.1).mono ?_
              rintro e x53 ⟨rfl, hBelow⟩
              rw [hpq]
              have M := Lib.hid (M.out.step hBelow)
              have HT := Lib.hid (And.intro (HT.out.1.below hBelow) HT.out.2)
              go_wp2_with fail
              have hsx53 := Lib.hid (Sof.step hsx52.out hBelow)
              refine hK2.out _ _ hsx53.out ?_
              clear hK2 K2 hBelow
              refine sv_still fun K0 hK0 => ?_
              simp only [pickM]
              go_wp2_with fail
              refine hK0.out _ ?_
              clear hK0 K0
              refine sv_act fun K2 hK2 => ?_
              simp only [pickM]
              go_wp2_with fail
              obtain ⟨x54, hx⟩ : ∃ X, X = World.alloc x53 (.cells (u8s (zer 32)) 24) := ⟨_, rfl⟩
              rw [← hx]
              have hBelow : Below x53.heap.size x53 x54 := by rw [hx]; exact (Below.refl _ _).alloc (Nat.le_refl _) _
              have E := Lib.hid (show Blk x54 x53.heap.size 24 (u8s (zer 32)) by rw [hx]; exact Blk.new x53 24 _)
              have hE3 : V.heap.size ≤ x53.heap.size := (show Below _ _ _ from hsx53.out).size
              have hE4 : gt < x53.heap.size := M.out.t.lt
              have hE5 : g8 < x53.heap.size := M.out.r.lt
              have M := Lib.hid (M.out.step hBelow)
              have HT := Lib.hid (And.intro (HT.out.1.below hBelow) HT.out.2)
              clear hx
              go_wp2_with fail
              have hsx54 := Lib.hid (Sof.step hsx53.out hBelow)
              refine hK2.out _ _ hsx54.out ?_
              clear hK2 K2 hBelow
              refine sv_act fun K2 hK2 => ?_
              simp only [pickM]
              have s1 := store24_run E.out rfl hxo.1
              go_wp2_with fail
              obtain ⟨x55, hx⟩ : ∃ X, X = World.setRow x54 x53.heap.size (u8s x) := ⟨_, rfl⟩
              rw [← hx]
              have hSof : Below V.heap.size V x55 := by rw [hx]; exact below_setRow' (show Below _ _ _ from hsx54.out) hE3 _
              have E2 := Lib.hid (show Blk x55 x53.heap.size 24 (u8s x) by rw [hx]; exact E.out.setRow _)
              have A9 := Lib.hid (show At w x55 from ⟨M.out.a.t0, by rw [hx]; exact below_setRow' M.out.a.b (Nat.le_trans (Nat.le_trans hgw (Nat.le_of_lt hE4)) (Nat.le_refl _)) _⟩)
              have LP9 := Lib.hid (show LV x55 P (hcell ps) by rw [hx]; exact lv_rowT M.out.o E.out _)
              clear hx s1 E M HT
              have E := E2
              clear E2
              go_wp2_with fail
              have hsx55 := Lib.hid (show Sof (some V) x55 from hSof)
              refine hK2.out _ _ hsx55.out ?_
              clear hK2 K2 hSof
              refine sv_still fun K0 hK0 => ?_
              simp only [pickM]
              go_wp2_with fail
              refine hK0.out _ ?_
              clear hK0 K0
              change Exit.then _ _ _ _ _
              have lx := load24M E.out hxo.1
              cases y with
              | false =>
                go_wp2_with fail
                go_ret
                exact ⟨rfl, A9.out.b⟩
              | true =>
                have hv := mverify_all x55 A9.out.t x hxo.1 a b leaf L ml cl HE.out.1.len HE.out.1.le (by have := HE.out.1.m40; omega) HE.out.1.b (HE.out.1.r.below A9.out.b) ps P k pc HE.out.2.2.2.1 (by omega) HE.out.2.2.2.2.1 LP9.out
                have hv0 : verifyI x a b leaf ps = 0 := by
                  unfold verifyI
                  rw [HB.out, if_neg (by simp), Int.toNat_natCast, Int.toNat_natCast, verifyL_path x a b leaf ps h1 h3, HQ.out]
                  simp
                rw [hv0] at hv
                have HV := Lib.hid hv
                clear hv hv0
                go_wp2_with fail
                refine HV.out.mono ?_
                rintro e wz ⟨rfl, Bz⟩
                have Az := Lib.hid (A9.out.step Bz)
                clear Bz HV
                go_wp2_with fail
                go_ret
                exact ⟨rfl, Az.out.b⟩
            · refine sv_act fun K2 hK2 => ?_
              simp only [pickM]
              go_wp2_with fail
              obtain ⟨x56, hx⟩ : ∃ X, X = World.alloc x52 (.cells (u8s (zer 32)) 24) := ⟨_, rfl⟩
              rw [← hx]
              have hBelow : Below x52.heap.size x52 x56 := by rw [hx]; exact (Below.refl _ _).alloc (Nat.le_refl _) _
              have E := Lib.hid (show Blk x56 x52.heap.size 24 (u8s (zer 32)) by rw [hx]; exact Blk.new x52 24 _)
              have hE3 : V.heap.size ≤ x52.heap.size := (show Below _ _ _ from hsx52.out).size
              have hE4 : gt < x52.heap.size := M.out.t.lt
              have hE5 : g8 < x52.heap.size := M.out.r.lt
              have M := Lib.hid (M.out.step hBelow)
              have HT := Lib.hid (And.intro (HT.out.1.below hBelow) HT.out.2)
              clear hx
              go_wp2_with fail
              have hsx56 := Lib.hid (Sof.step hsx52.out hBelow)
              refine hK2.out _ _ hsx56.out ?_
              clear hK2 K2 hBelow
              refine sv_act fun K2 hK2 => ?_
              simp only [pickM]
              go_wp2_with fail
              refine (rpath_any a b (leafL leaf) ps _ TA k tc h1 h2 h3 (leafL_length _) (sha_bytes _) HE.out.2.2.2.1 (by omega) HT.out.2.1 (by have := HT.out.2.2; unfold maxLen at this; omega) HE.out.2.2.2.2.1 HT.out.1).mono ?_
              rintro e x57 ⟨rfl, hBelow⟩
              rw [hpq]
              have M := Lib.hid (M.out.step hBelow)
              have E := Lib.hid (E.out.below hBelow E.out.lt)
              have HT := Lib.hid (And.intro (HT.out.1.below hBelow) HT.out.2)
              go_wp2_with fail
              have hsx57 := Lib.hid (Sof.step hsx56.out hBelow)
              refine hK2.out _ _ hsx57.out ?_
              clear hK2 K2 hBelow
              refine sv_still fun K0 hK0 => ?_
              simp only [pickM]
              go_wp2_with fail
              refine hK0.out _ ?_
              clear hK0 K0
              refine sv_act fun K2 hK2 => ?_
              simp only [pickM]
              have s1 := store24_run E.out rfl hxo.1
              go_wp2_with fail
              obtain ⟨x58, hx⟩ : ∃ X, X = World.setRow x57 x52.heap.size (u8s x) := ⟨_, rfl⟩
              rw [← hx]
              have hSof : Below V.heap.size V x58 := by rw [hx]; exact below_setRow' (show Below _ _ _ from hsx57.out) hE3 _
              have E2 := Lib.hid (show Blk x58 x52.heap.size 24 (u8s x) by rw [hx]; exact E.out.setRow _)
              have A9 := Lib.hid (show At w x58 from ⟨M.out.a.t0, by rw [hx]; exact below_setRow' M.out.a.b (Nat.le_trans (Nat.le_trans hgw (Nat.le_of_lt hE4)) (Nat.le_refl _)) _⟩)
              have LP9 := Lib.hid (show LV x58 P (hcell ps) by rw [hx]; exact lv_rowT M.out.o E.out _)
              clear hx s1 E M HT
              have E := E2
              clear E2
              go_wp2_with fail
              have hsx58 := Lib.hid (show Sof (some V) x58 from hSof)
              refine hK2.out _ _ hsx58.out ?_
              clear hK2 K2 hSof
              refine sv_still fun K0 hK0 => ?_
              simp only [pickM]
              go_wp2_with fail
              refine hK0.out _ ?_
              clear hK0 K0
              change Exit.then _ _ _ _ _
              have lx := load24M E.out hxo.1
              cases y with
              | false =>
                go_wp2_with fail
                go_ret
                exact ⟨rfl, A9.out.b⟩
              | true =>
                have hv := mverify_all x58 A9.out.t x hxo.1 a b leaf L ml cl HE.out.1.len HE.out.1.le (by have := HE.out.1.m40; omega) HE.out.1.b (HE.out.1.r.below A9.out.b) ps P k pc HE.out.2.2.2.1 (by omega) HE.out.2.2.2.2.1 LP9.out
                have hv0 : verifyI x a b leaf ps = 0 := by
                  unfold verifyI
                  rw [HB.out, if_neg (by simp), Int.toNat_natCast, Int.toNat_natCast, verifyL_path x a b leaf ps h1 h3, HQ.out]
                  simp
                rw [hv0] at hv
                have HV := Lib.hid hv
                clear hv hv0
                go_wp2_with fail
                refine HV.out.mono ?_
                rintro e wz ⟨rfl, Bz⟩
                have Az := Lib.hid (A9.out.step Bz)
                clear Bz HV
                go_wp2_with fail
                go_ret
                exact ⟨rfl, Az.out.b⟩
          · refine sv_act fun K2 hK2 => ?_
            simp only [pickM]
            go_wp2_with fail
            obtain ⟨x59, hx⟩ : ∃ X, X = World.alloc x51 (.cells (u8s (zer 32)) 24) := ⟨_, rfl⟩
            rw [← hx]
            have hBelow : Below x51.heap.size x51 x59 := by rw [hx]; exact (Below.refl _ _).alloc (Nat.le_refl _) _
            have E := Lib.hid (show Blk x59 x51.heap.size 24 (u8s (zer 32)) by rw [hx]; exact Blk.new x51 24 _)
            have hE3 : V.heap.size ≤ x51.heap.size := (show Below _ _ _ from hsx51.out).size
            have hE4 : gt < x51.heap.size := M.out.t.lt
            have hE5 : g8 < x51.heap.size := M.out.r.lt
            have M := Lib.hid (M.out.step hBelow)
            clear hx
            go_wp2_with fail
            have hsx59 := Lib.hid (Sof.step hsx51.out hBelow)
            refine hK2.out _ _ hsx59.out ?_
            clear hK2 K2 hBelow
            refine sv_act fun K2 hK2 => ?_
            simp only [pickM]
            go_wp2_with fail
            refine (to_any _ ps P k pc HE.out.2.2.2.1 HE.out.2.2.2.2.1 (by omega) M.out.o.lv).mono ?_
            rintro e x60 ⟨TA, tc, rfl, OT, hBelow⟩
            have HT := Lib.hid (And.intro OT.lv OT.cap')
            clear OT
            have M := Lib.hid (M.out.step hBelow)
            have E := Lib.hid (E.out.below hBelow E.out.lt)
            go_wp2_with fail
            have hsx60 := Lib.hid (Sof.step hsx59.out hBelow)
            refine hK2.out _ _ hsx60.out ?_
            clear hK2 K2 hBelow
            refine sv_act fun K2 hK2 => ?_
            simp only [pickM]
            go_wp2_with fail
            refine (rpath_any a b (leafL leaf) ps _ TA k tc h1 h2 h3 (leafL_length _) (sha_bytes _) HE.out.2.2.2.1 (by omega) HT.out.2.1 (by have := HT.out.2.2; unfold maxLen at this; omega) HE.out.2.2.2.2.1 HT.out.1).mono ?_
            rintro e x61 ⟨rfl, hBelow⟩
            rw [hpq]
            have M := Lib.hid (M.out.step hBelow)
            have E := Lib.hid (E.out.below hBelow E.out.lt)
            have HT := Lib.hid (And.intro (HT.out.1.below hBelow) HT.out.2)
            go_wp2_with fail
            have hsx61 := Lib.hid (Sof.step hsx60.out hBelow)
            refine hK2.out _ _ hsx61.out ?_
            clear hK2 K2 hBelow
            refine sv_still fun K0 hK0 => ?_
            simp only [pickM]
            go_wp2_with fail
            refine hK0.out _ ?_
            clear hK0 K0
            refine sv_act fun K2 hK2 => ?_
            simp only [pickM]
            have s1 := store24_run E.out rfl hxo.1
            go_wp2_with fail
            obtain ⟨x62, hx⟩ : ∃ X, X = World.setRow x61 x51.heap.size (u8s x) := ⟨_, rfl⟩
            rw [← hx]
            have hSof : Below V.heap.size V x62 := by rw [hx]; exact below_setRow' (show Below _ _ _ from hsx61.out) hE3 _
            have E2 := Lib.hid (show Blk x62 x51.heap.size 24 (u8s x) by rw [hx]; exact E.out.setRow _)
            have A9 := Lib.hid (show At w x62 from ⟨M.out.a.t0, by rw [hx]; exact below_setRow' M.out.a.b (Nat.le_trans (Nat.le_trans hgw (Nat.le_of_lt hE4)) (Nat.le_refl _)) _⟩)
            have LP9 := Lib.hid (show LV x62 P (hcell ps) by rw [hx]; exact lv_rowT M.out.o E.out _)
            clear hx s1 E M HT
            have E := E2
            clear E2
            go_wp2_with fail
            have hsx62 := Lib.hid (show Sof (some V) x62 from hSof)
            refine hK2.out _ _ hsx62.out ?_
            clear hK2 K2 hSof
            refine sv_still fun K0 hK0 => ?_
            simp only [pickM]
            go_wp2_with fail
            refine hK0.out _ ?_
            clear hK0 K0
            change Exit.then _ _ _ _ _
            have lx := load24M E.out hxo.1
            cases y with
            | false =>
              go_wp2_with fail
              go_ret
              exact ⟨rfl, A9.out.b⟩
            | true =>
              have hv := mverify_all x62 A9.out.t x hxo.1 a b leaf L ml cl HE.out.1.len HE.out.1.le (by have := HE.out.1.m40; omega) HE.out.1.b (HE.out.1.r.below A9.out.b) ps P k pc HE.out.2.2.2.1 (by omega) HE.out.2.2.2.2.1 LP9.out
              have hv0 : verifyI x a b leaf ps = 0 := by
                unfold verifyI
                rw [HB.out, if_neg (by simp), Int.toNat_natCast, Int.toNat_natCast, verifyL_path x a b leaf ps h1 h3, HQ.out]
                simp
              rw [hv0] at hv
              have HV := Lib.hid hv
              clear hv hv0
              go_wp2_with fail
              refine HV.out.mono ?_
              rintro e wz ⟨rfl, Bz⟩
              have Az := Lib.hid (A9.out.step Bz)
              clear Bz HV
              go_wp2_with fail
              go_ret
              exact ⟨rfl, Az.out.b⟩
        · refine sv_act fun K2 hK2 => ?_
          simp only [pickM]
          go_wp2_with fail
          obtain ⟨x63, hx⟩ : ∃ X, X = World.alloc V (.cells (u8s (zer 32)) 24) := ⟨_, rfl⟩
          rw [← hx]
          have hBelow : Below V.heap.size V x63 := by rw [hx]; exact (Below.refl _ _).alloc (Nat.le_refl _) _
          have E := Lib.hid (show Blk x63 V.heap.size 24 (u8s (zer 32)) by rw [hx]; exact Blk.new V 24 _)
          have hE3 : V.heap.size ≤ V.heap.size := Nat.le_refl _
          have hE4 : gt < V.heap.size := M.out.t.lt
          have hE5 : g8 < V.heap.size := M.out.r.lt
          have M := Lib.hid (M.out.step hBelow)
          clear hx
          go_wp2_with fail
          have hsx63 := Lib.hid (show Sof (some V) x63 from hBelow)
          refine hK2.out _ _ hsx63.out ?_
          clear hK2 K2 hBelow
          refine sv_act fun K2 hK2 => ?_
          simp only [pickM]
          go_wp2_with fail
          refine (rleaf_any _ leaf L ml cl HE.out.1.len HE.out.1.le (by have := HE.out.1.m40; omega) HE.out.1.b (HE.out.1.r.below M.out.a.b)).mono ?_
          rintro e x64 ⟨rfl, hBelow⟩
          have M := Lib.hid (M.out.step hBelow)
          have E := Lib.hid (E.out.below hBelow E.out.lt)
          go_wp2_with fail
          have hsx64 := Lib.hid (Sof.step hsx63.out hBelow)
          refine hK2.out _ _ hsx64.out ?_
          clear hK2 K2 hBelow
          refine sv_act fun K2 hK2 => ?_
          simp only [pickM]
          go_wp2_with fail
          refine (to_any _ ps P k pc HE.out.2.2.2.1 HE.out.2.2.2.2.1 (by omega) M.out.o.lv).mono ?_
          rintro e x65 ⟨TA, tc, rfl, OT, hBelow⟩
          have HT := Lib.hid (And.intro OT.lv OT.cap')
          clear OT
          have M := Lib.hid (M.out.step hBelow)
          have E := Lib.hid (E.out.below hBelow E.out.lt)
          go_wp2_with fail
          have hsx65 := Lib.hid (Sof.step hsx64.out hBelow)
          refine hK2.out _ _ hsx65.out ?_
          clear hK2 K2 hBelow
          refine sv_act fun K2 hK2 => ?_
          simp only [pickM]
          go_wp2_with fail
          refine (rpath_any a b (leafL leaf) ps _ TA k tc h1 h2 h3 (leafL_length _) (sha_bytes _) HE.out.2.2.2.1 (by omega) HT.out.2.1 (by have := HT.out.2.2; unfold maxLen at this; omega) HE.out.2.2.2.2.1 HT.out.1).mono ?_
          rintro e x66 ⟨rfl, hBelow⟩
          rw [hpq]
          have M := Lib.hid (M.out.step hBelow)
          have E := Lib.hid (E.out.below hBelow E.out.lt)
          have HT := Lib.hid (And.intro (HT.out.1.below hBelow) HT.out.2)
          go_wp2_with fail
          have hsx66 := Lib.hid (Sof.step hsx65.out hBelow)
          refine hK2.out _ _ hsx66.out ?_
          clear hK2 K2 hBelow
          refine sv_still fun K0 hK0 => ?_
          simp only [pickM]
          go_wp2_with fail
          refine hK0.out _ ?_
          clear hK0 K0
          refine sv_act fun K2 hK2 => ?_
          simp only [pickM]
          have s1 := store24_run E.out rfl hxo.1
          go_wp2_with fail
          obtain ⟨x67, hx⟩ : ∃ X, X = World.setRow x66 V.heap.size (u8s x) := ⟨_, rfl⟩
          rw [← hx]
          have hSof : Below V.heap.size V x67 := by rw [hx]; exact below_setRow' (show Below _ _ _ from hsx66.out) hE3 _
          have E2 := Lib.hid (show Blk x67 V.heap.size 24 (u8s x) by rw [hx]; exact E.out.setRow _)
          have A9 := Lib.hid (show At w x67 from ⟨M.out.a.t0, by rw [hx]; exact below_setRow' M.out.a.b (Nat.le_trans (Nat.le_trans hgw (Nat.le_of_lt hE4)) (Nat.le_refl _)) _⟩)
          have LP9 := Lib.hid (show LV x67 P (hcell ps) by rw [hx]; exact lv_rowT M.out.o E.out _)
          clear hx s1 E M HT
          have E := E2
          clear E2
          go_wp2_with fail
          have hsx67 := Lib.hid (show Sof (some V) x67 from hSof)
          refine hK2.out _ _ hsx67.out ?_
          clear hK2 K2 hSof
          refine sv_still fun K0 hK0 => ?_
          simp only [pickM]
          go_wp2_with fail
          refine hK0.out _ ?_
          clear hK0 K0
          change Exit.then _ _ _ _ _
          have lx := load24M E.out hxo.1
          cases y with
          | false =>
            go_wp2_with fail
            go_ret
            exact ⟨rfl, A9.out.b⟩
          | true =>
            have hv := mverify_all x67 A9.out.t x hxo.1 a b leaf L ml cl HE.out.1.len HE.out.1.le (by have := HE.out.1.m40; omega) HE.out.1.b (HE.out.1.r.below A9.out.b) ps P k pc HE.out.2.2.2.1 (by omega) HE.out.2.2.2.2.1 LP9.out
            have hv0 : verifyI x a b leaf ps = 0 := by
              unfold verifyI
              rw [HB.out, if_neg (by simp), Int.toNat_natCast, Int.toNat_natCast, verifyL_path x a b leaf ps h1 h3, HQ.out]
              simp
            rw [hv0] at hv
            have HV := Lib.hid hv
            clear hv hv0
            go_wp2_with fail
            refine HV.out.mono ?_
            rintro e wz ⟨rfl, Bz⟩
            have Az := Lib.hid (A9.out.step Bz)
            clear Bz HV
            go_wp2_with fail
            go_ret
            exact ⟨rfl, Az.out.b⟩

end Go.Proofs.YtediocpdpghbfaaDoor
