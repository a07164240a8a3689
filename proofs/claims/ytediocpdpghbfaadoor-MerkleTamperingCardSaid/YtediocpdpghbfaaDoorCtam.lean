/- For every slice of slices of bytes, every index and every change the law girolaw07.MerkleTampering returns true and leaves its arguments as they were. -/
import Derived.Test.YtediocpdpghbfaaDoorLtam
import Derived.Test.YtediocpdpghbfaaDoorStrC
import Derived.Test.YtediocpdpghbfaaDoorShaR
set_option linter.unusedSimpArgs false
set_option linter.unusedVariables false
namespace Go.Proofs.YtediocpdpghbfaaDoor.merkleTampering
open Go Go.ChangeShapes Go.WideShapes Go.ChangeAt Go.RowKit

set_option maxRecDepth 100000 in
theorem contract (H : Type) (enc : TypeId × Value → H) (W : World) (base : Nat) (args : Array Value) (ds gs : List (DataW H)) (before : List MemPlace)
    (hval : ∀ (j : Nat) t v, Tryd.f18.params[j]? = some t → args[j]? = some v → Value.okWide Tryd.prog W .any base t v)
    (hW : DataW.Whole enc Tryd.prog Tryd.f18.params.toList Rows.merkleTamperingSpec.vars false W args.toList ds gs before) (hL : laidMetH Tryd.prog Rows.merkleTamperingRow.laid W)
    (hweigh : (DataW.weightsEach Tryd.prog (Tryd.f18.params.toList ++ (OpenSpec.ofChange Rows.merkleTamperingSpec).bare.plain.varTypes Tryd.prog) (ds ++ gs)).all (· ≤ reachBytes) = true) :
    Calls Tryd.prog 18 args W fun e W' => ∃ v, e = .returned v ∧ Rows.merkleTamperingSpec.post enc Tryd.prog Tryd.f18 false true false false W args v W' := by
  have hW' := hW
  obtain ⟨p, q, hA0, hV, rfl, _, _⟩ := hW
  have hA : DataW.TrodAll enc Tryd.prog W 0 (fun _ => true) true Tryd.f18.params.toList args.toList ds p := hA0
  rw [Tryd.params18] at hA hval
  obtain ⟨v0, vs0, d0, ds0, p0, q0, hargs0, rfl, rfl, h0, r0⟩ := trodAll_cons hA
  obtain ⟨v1, vs1, d1, ds1, p1, q1, hargs1, rfl, rfl, h1, r1⟩ := trodAll_cons r0
  subst hargs1
  obtain ⟨v2, vs2, d2, ds2, p2, q2, hargs2, rfl, rfl, h2, r2⟩ := trodAll_cons r1
  subst hargs2
  obtain ⟨rfl, rfl, rfl⟩ := trodAll_nil r2
  obtain rfl : args = #[v0, v1, v2] := by cases args; simp_all
  obtain ⟨rfl, rfl⟩ := trodVars_none hV
  clear hA0 hargs0

  have hlt : ∀ x ∈ (p0 ++ (p1 ++ (p2 ++ []))) ++ [], x.block < W.heap.size := fun x hx => by simpa using hW'.lt x hx
  have hlt0 : ∀ x ∈ p0, x.block < W.heap.size := fun x hx => hlt x (by simp [hx])
  have ag0 : ∀ (W' : World), Below W.heap.size W W' → DataW.Trod enc Tryd.prog W' 0 (fun b => decide (b < W.heap.size)) true 41 v0 d0 p0 :=
    fun W' hn => Below.trod laidOut (by kernel_rfl) (of_decide_eq_true (by kernel_rfl)) h0 hn hlt0
  have hlt1 : ∀ x ∈ p1, x.block < W.heap.size := fun x hx => hlt x (by simp [hx])
  have ag1 : ∀ (W' : World), Below W.heap.size W W' → DataW.Trod enc Tryd.prog W' 0 (fun b => decide (b < W.heap.size)) true 5 v1 d1 p1 :=
    fun W' hn => Below.trod laidOut (by kernel_rfl) (of_decide_eq_true (by kernel_rfl)) h1 hn hlt1
  have hlt2 : ∀ x ∈ p2, x.block < W.heap.size := fun x hx => hlt x (by simp [hx])
  have ag2 : ∀ (W' : World), Below W.heap.size W W' → DataW.Trod enc Tryd.prog W' 0 (fun b => decide (b < W.heap.size)) true 84 v2 d2 p2 :=
    fun W' hn => Below.trod laidOut (by kernel_rfl) (of_decide_eq_true (by kernel_rfl)) h2 hn hlt2
  have hw0 : (d0.weights Tryd.prog 41).all (· ≤ reachBytes) = true := by
      rw [Tryd.params18] at hweigh
      rw [List.all_eq_true] at hweigh ⊢
      intro x hx
      exact hweigh x (by simp [DataW.weightsEach, hx])
  obtain ⟨A0, cap0, ps0, rfl, hcap0, hmax0, hP0⟩ := pieces_arg (hval 0 41 v0 rfl rfl) h0 hw0
  obtain ⟨z1, rfl, rfl, rfl, wz1⟩ := open_int Tryd.underlying5 (hval 1 5 v1 rfl rfl) h1
  have hz1 : 0 ≤ z1 ∧ z1 ≤ 255 := by simpa [Lit.wf, IntKind.min, IntKind.max, IntKind.signed, IntKind.bits] using wz1
  obtain ⟨x1, rfl⟩ : ∃ x : Nat, z1 = x := ⟨z1.toNat, by omega⟩
  obtain ⟨zs2, rfl, hl2, hz2⟩ := struct_cells Tryd.underlying84 Tryd.underlying5 (by kernel_rfl) (hval 2 84 v2 rfl rfl)
  obtain ⟨c0, c1, c2, rfl⟩ := three_of (hl2.trans cells84)
  have hc0 : 0 ≤ c0 ∧ c0 ≤ 255 := by simpa [IntKind.has, IntKind.min, IntKind.max, IntKind.signed, IntKind.bits] using hz2 c0 (by simp)
  have hc1 : 0 ≤ c1 ∧ c1 ≤ 255 := by simpa [IntKind.has, IntKind.min, IntKind.max, IntKind.signed, IntKind.bits] using hz2 c1 (by simp)
  have hc2 : 0 ≤ c2 ∧ c2 ≤ 255 := by simpa [IntKind.has, IntKind.min, IntKind.max, IntKind.signed, IntKind.bits] using hz2 c2 (by simp)
  obtain ⟨k0, rfl⟩ : ∃ k : Nat, c0 = k := ⟨c0.toNat, by omega⟩
  obtain ⟨k1, rfl⟩ : ∃ k : Nat, c1 = k := ⟨c1.toNat, by omega⟩
  obtain ⟨k2, rfl⟩ : ∃ k : Nat, c2 = k := ⟨c2.toNat, by omega⟩
  refine (law_merkleTampering W (tabs_of hL) x1 (by omega) k0 k1 k2 (by omega) (by omega) (by omega) ps0 A0 cap0 _ rfl hcap0 (by unfold maxLen at hmax0; omega) hP0).mono fun e W' ⟨he, hw⟩ => ?_
  subst he
  exact ⟨_, rfl, ⟨_, _, _, [], _, [], hW', trodAll_mk1 (shut_bool Tryd.underlying4 _), (trodAll_cons_mk (ag0 _ hw) (trodAll_cons_mk (ag1 _ hw) (trodAll_cons_mk (ag2 _ hw) trodAll_mk0))), rfl, hw.frame _, fun h => by cases h⟩⟩

theorem laid_met (os : Os) : laidMet Tryd.prog Rows.merkleTamperingRow.laid ((laidWorld os).forCall (fun _ _ => 0) ⟨#[], #[.slice none 0 0, .int .u8 0, .agg #[.int .u8 0, .int .u8 0, .int .u8 0]], []⟩).memory :=
  laidMet_of_run' 8 (by kernel_rfl) (by kernel_rfl)
theorem reads (os : Os) {H : Type} (enc : TypeId × Value → H) : ∃ places, DataW.whole enc Tryd.prog ((laidWorld os).forCall (fun _ _ => 0) ⟨#[], #[.slice none 0 0, .int .u8 0, .agg #[.int .u8 0, .int .u8 0, .int .u8 0]], []⟩).memory Tryd.f18.params.toList Rows.merkleTamperingSpec.vars false (#[Value.slice none 0 0, .int .u8 0, .agg #[.int .u8 0, .int .u8 0, .int .u8 0]] : Array Value).toList 8 = some ([.nil, .lit (.int .u8 0), .agg [.lit (.int .u8 0), .lit (.int .u8 0), .lit (.int .u8 0)]], [], places) :=
  ⟨[], by kernel_rfl⟩

set_option maxRecDepth 100000 in
theorem lifted (os : Os) (started : os.Started) (H : Type) (enc : TypeId × Value → H) (F : Stop.Interp) :
    ReturnsInHanded {} Tryd.checked os 18 .any ((OpenSpec.ofChange Rows.merkleTamperingSpec).preRow enc Tryd.prog Tryd.f18 Rows.merkleTamperingRow.domain false Rows.merkleTamperingRow.laid) (((OpenSpec.ofChange Rows.merkleTamperingSpec).at F).post enc Tryd.prog Tryd.f18 false true false false) := by
  obtain ⟨places, hx⟩ := reads os enc
  refine returnsInHanded_of_row (C := Tryd.checked) (s := OpenSpec.ofChange Rows.merkleTamperingSpec) own started (by kernel_rfl) Tryd.func18
    (witness_row_at (enc := enc) (C := Tryd.checked) false (laidWorld os) #[.slice none 0 0, .int .u8 0, .agg #[.int .u8 0, .int .u8 0, .int .u8 0]] rfl (by kernel_rfl) (by kernel_rfl) (by kernel_rfl)
      (OpenSpec.preRow_of_cond 8 hx (by kernel_rfl) (fun k hk => by cases hk) (by kernel_rfl) (laid_met os))) ?_
  intro W base args ds gs before hval hW _ _ hweigh hL _ _
  exact contract H enc W base args ds gs before hval hW hL hweigh

theorem said : Rows.MerkleTamperingSaid :=
  OpenClaim.holds_of_cond 18 Tryd.f18 rfl rfl rfl rfl rfl rfl rfl ⟨rfl, rfl, rfl, rfl, rfl⟩ rfl rfl rfl rfl rfl (by kernel_rfl) Tryd.func18 (by kernel_rfl)
    (of_decide_eq_true (by kernel_rfl)) (by unfold Func.isWrapper; first | (rw [if_pos (by decide +kernel)]; kernel_rfl) | (rw [if_neg (by decide +kernel)]; exact ⟨rfl, rfl⟩))
    (fun os started H enc _ F => by rw [OpenClaim.pre_eq_preRow]; exact lifted os started H enc F)

set_option maxRecDepth 100000 in
theorem plain (f : FuncId) (fn : Func) (hf : Tryd.pinned.checked.prog.funcNamed "giro/girolaw07.MerkleTampering" = some f) (hfn : Tryd.pinned.checked.prog.funcs[f]? = some fn) :
    false = Tryd.pinned.checked.prog.looks [] ∧ ∀ (j : Nat) t, fn.params[j]? = some t → Tryd.pinned.checked.prog.wantsStandIn t = false := by
  obtain rfl : f = 18 := Option.some.inj ((show Tryd.prog.funcNamed "giro/girolaw07.MerkleTampering" = some 18 by kernel_rfl).symm.trans hf) |>.symm
  obtain rfl : fn = Tryd.f18 := (Option.some.inj (Tryd.func18.symm.trans hfn)).symm
  refine ⟨by kernel_rfl, fun j t ht => ?_⟩
  rw [Tryd.params18] at ht
  have hm := Array.mem_of_getElem? ht
  simp only [List.mem_toArray, List.mem_cons, List.not_mem_nil, or_false] at hm
  rcases hm with rfl | rfl | rfl
  all_goals first
    | exact (show Tryd.prog.wantsStandIn 41 = false by kernel_rfl)
    | exact (show Tryd.prog.wantsStandIn 5 = false by kernel_rfl)
    | exact (show Tryd.prog.wantsStandIn 84 = false by kernel_rfl)

/-- THE CARD -/
theorem card : Rows.MerkleTamperingCardSaid :=
  Claim7.holds_tied_plain_at .later [] _ _ _ _ said (fun _ h => by cases h) (by kernel_rfl) (fun _ h => by cases h) merkleTampering_row_tie rfl ⟨rfl, rfl⟩ (by kernel_rfl) rfl plain (by kernel_rfl)
end Go.Proofs.YtediocpdpghbfaaDoor.merkleTampering
