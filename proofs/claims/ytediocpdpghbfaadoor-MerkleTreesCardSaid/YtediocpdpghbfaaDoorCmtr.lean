/- For every two slices of slices of bytes the law girolaw07.MerkleTrees returns true and leaves its arguments as they were. -/
import Derived.Test.YtediocpdpghbfaaDoorLmtr
import Derived.Test.YtediocpdpghbfaaDoorShaR
set_option linter.unusedSimpArgs false
set_option linter.unusedVariables false
namespace Go.Proofs.YtediocpdpghbfaaDoor.merkleTrees
open Go Go.ChangeShapes Go.WideShapes Go.ChangeAt Go.RowKit

set_option maxRecDepth 100000 in
theorem contract (H : Type) (enc : TypeId × Value → H) (W : World) (base : Nat) (args : Array Value) (ds gs : List (DataW H)) (before : List MemPlace)
    (hval : ∀ (j : Nat) t v, Tryd.f17.params[j]? = some t → args[j]? = some v → Value.okWide Tryd.prog W .any base t v)
    (hW : DataW.Whole enc Tryd.prog Tryd.f17.params.toList Rows.merkleTreesSpec.vars false W args.toList ds gs before) (hL : laidMetH Tryd.prog Rows.merkleTreesRow.laid W)
    (hweigh : (DataW.weightsEach Tryd.prog (Tryd.f17.params.toList ++ (OpenSpec.ofChange Rows.merkleTreesSpec).bare.plain.varTypes Tryd.prog) (ds ++ gs)).all (· ≤ reachBytes) = true) :
    Calls Tryd.prog 17 args W fun e W' => ∃ v, e = .returned v ∧ Rows.merkleTreesSpec.post enc Tryd.prog Tryd.f17 false true false false W args v W' := by
  have hW' := hW
  obtain ⟨p, q, hA0, hV, rfl, _, _⟩ := hW
  have hA : DataW.TrodAll enc Tryd.prog W 0 (fun _ => true) true Tryd.f17.params.toList args.toList ds p := hA0
  rw [Tryd.params17] at hA hval
  obtain ⟨v0, vs0, d0, ds0, p0, q0, hargs0, rfl, rfl, h0, r0⟩ := trodAll_cons hA
  obtain ⟨v1, vs1, d1, ds1, p1, q1, hargs1, rfl, rfl, h1, r1⟩ := trodAll_cons r0
  subst hargs1
  obtain ⟨rfl, rfl, rfl⟩ := trodAll_nil r1
  obtain rfl : args = #[v0, v1] := by cases args; simp_all
  obtain ⟨rfl, rfl⟩ := trodVars_none hV
  clear hA0 hargs0

  have hlt : ∀ x ∈ (p0 ++ (p1 ++ [])) ++ [], x.block < W.heap.size := fun x hx => by simpa using hW'.lt x hx
  have hlt0 : ∀ x ∈ p0, x.block < W.heap.size := fun x hx => hlt x (by simp [hx])
  have ag0 : ∀ (W' : World), Below W.heap.size W W' → DataW.Trod enc Tryd.prog W' 0 (fun b => decide (b < W.heap.size)) true 41 v0 d0 p0 :=
    fun W' hn => Below.trod laidOut (by kernel_rfl) (of_decide_eq_true (by kernel_rfl)) h0 hn hlt0
  have hlt1 : ∀ x ∈ p1, x.block < W.heap.size := fun x hx => hlt x (by simp [hx])
  have ag1 : ∀ (W' : World), Below W.heap.size W W' → DataW.Trod enc Tryd.prog W' 0 (fun b => decide (b < W.heap.size)) true 41 v1 d1 p1 :=
    fun W' hn => Below.trod laidOut (by kernel_rfl) (of_decide_eq_true (by kernel_rfl)) h1 hn hlt1
  have hw0 : (d0.weights Tryd.prog 41).all (· ≤ reachBytes) = true := by
      rw [Tryd.params17] at hweigh
      rw [List.all_eq_true] at hweigh ⊢
      intro x hx
      exact hweigh x (by simp [DataW.weightsEach, hx])
  obtain ⟨A0, cap0, ps0, rfl, hcap0, hmax0, hP0⟩ := pieces_arg (hval 0 41 v0 rfl rfl) h0 hw0
  have hw1 : (d1.weights Tryd.prog 41).all (· ≤ reachBytes) = true := by
      rw [Tryd.params17] at hweigh
      rw [List.all_eq_true] at hweigh ⊢
      intro x hx
      exact hweigh x (by simp [DataW.weightsEach, hx])
  obtain ⟨A1, cap1, ps1, rfl, hcap1, hmax1, hP1⟩ := pieces_arg (hval 1 41 v1 rfl rfl) h1 hw1
  refine (law_merkleTrees W (tabs_of hL) ps0 ps1 A0 A1 cap0 cap1 _ _ rfl hcap0 (by unfold maxLen at hmax0; omega) hP0 rfl hcap1 (by unfold maxLen at hmax1; omega) hP1).mono fun e W' ⟨he, hw⟩ => ?_
  subst he
  exact ⟨_, rfl, ⟨_, _, _, [], _, [], hW', trodAll_mk1 (shut_bool Tryd.underlying4 _), (trodAll_cons_mk (ag0 _ hw) (trodAll_cons_mk (ag1 _ hw) trodAll_mk0)), rfl, hw.frame _, fun h => by cases h⟩⟩

theorem laid_met (os : Os) : laidMet Tryd.prog Rows.merkleTreesRow.laid ((laidWorld os).forCall (fun _ _ => 0) ⟨#[], #[.slice none 0 0, .slice none 0 0], []⟩).memory :=
  laidMet_of_run' 8 (by kernel_rfl) (by kernel_rfl)
theorem reads (os : Os) {H : Type} (enc : TypeId × Value → H) : ∃ places, DataW.whole enc Tryd.prog ((laidWorld os).forCall (fun _ _ => 0) ⟨#[], #[.slice none 0 0, .slice none 0 0], []⟩).memory Tryd.f17.params.toList Rows.merkleTreesSpec.vars false (#[Value.slice none 0 0, .slice none 0 0] : Array Value).toList 8 = some ([.nil, .nil], [], places) :=
  ⟨[], by kernel_rfl⟩

set_option maxRecDepth 100000 in
theorem lifted (os : Os) (started : os.Started) (H : Type) (enc : TypeId × Value → H) (F : Stop.Interp) :
    ReturnsInHanded {} Tryd.checked os 17 .any ((OpenSpec.ofChange Rows.merkleTreesSpec).preRow enc Tryd.prog Tryd.f17 Rows.merkleTreesRow.domain false Rows.merkleTreesRow.laid) (((OpenSpec.ofChange Rows.merkleTreesSpec).at F).post enc Tryd.prog Tryd.f17 false true false false) := by
  obtain ⟨places, hx⟩ := reads os enc
  refine returnsInHanded_of_row (C := Tryd.checked) (s := OpenSpec.ofChange Rows.merkleTreesSpec) own started (by kernel_rfl) Tryd.func17
    (witness_row_at (enc := enc) (C := Tryd.checked) false (laidWorld os) #[.slice none 0 0, .slice none 0 0] rfl (by kernel_rfl) (by kernel_rfl) (by kernel_rfl)
      (OpenSpec.preRow_of_cond 8 hx (by kernel_rfl) (fun k hk => by cases hk) (by kernel_rfl) (laid_met os))) ?_
  intro W base args ds gs before hval hW _ _ hweigh hL _ _
  exact contract H enc W base args ds gs before hval hW hL hweigh

theorem said : Rows.MerkleTreesSaid :=
  OpenClaim.holds_of_cond 17 Tryd.f17 rfl rfl rfl rfl rfl rfl rfl ⟨rfl, rfl, rfl, rfl, rfl⟩ rfl rfl rfl rfl rfl (by kernel_rfl) Tryd.func17 (by kernel_rfl)
    (of_decide_eq_true (by kernel_rfl)) (by unfold Func.isWrapper; first | (rw [if_pos (by decide +kernel)]; kernel_rfl) | (rw [if_neg (by decide +kernel)]; exact ⟨rfl, rfl⟩))
    (fun os started H enc _ F => by rw [OpenClaim.pre_eq_preRow]; exact lifted os started H enc F)

set_option maxRecDepth 100000 in
theorem plain (f : FuncId) (fn : Func) (hf : Tryd.pinned.checked.prog.funcNamed "giro/girolaw07.MerkleTrees" = some f) (hfn : Tryd.pinned.checked.prog.funcs[f]? = some fn) :
    false = Tryd.pinned.checked.prog.looks [] ∧ ∀ (j : Nat) t, fn.params[j]? = some t → Tryd.pinned.checked.prog.wantsStandIn t = false := by
  obtain rfl : f = 17 := Option.some.inj ((show Tryd.prog.funcNamed "giro/girolaw07.MerkleTrees" = some 17 by kernel_rfl).symm.trans hf) |>.symm
  obtain rfl : fn = Tryd.f17 := (Option.some.inj (Tryd.func17.symm.trans hfn)).symm
  refine ⟨by kernel_rfl, fun j t ht => ?_⟩
  rw [Tryd.params17] at ht
  have hm := Array.mem_of_getElem? ht
  simp only [List.mem_toArray, List.mem_cons, List.not_mem_nil, or_false] at hm
  rcases hm with rfl | rfl
  all_goals first
    | exact (show Tryd.prog.wantsStandIn 41 = false by kernel_rfl)

/-- THE CARD -/
theorem card : Rows.MerkleTreesCardSaid :=
  Claim7.holds_tied_plain_at .later [] _ _ _ _ said (fun _ h => by cases h) (by kernel_rfl) (fun _ h => by cases h) merkleTrees_row_tie rfl ⟨rfl, rfl⟩ (by kernel_rfl) rfl plain (by kernel_rfl)
end Go.Proofs.YtediocpdpghbfaaDoor.merkleTrees
