/- For every state and every block the law girolaw06.Sha256Compress returns true: the tied card, without any further condition than the card's own (the package's two tables as its text lays them). -/
import Derived.Test.YtediocpdpghbfaaDoorLcom
import Derived.Test.YtediocpdpghbfaaDoorArrs
import Derived.Test.YtediocpdpghbfaaDoorFram
set_option linter.unusedSimpArgs false
set_option linter.unusedVariables false
namespace Go.Proofs.YtediocpdpghbfaaDoor.sha256Compress
open Go Go.ChangeShapes Go.WideShapes Go.ChangeAt Go.RowKit

set_option maxRecDepth 100000 in
theorem contract (H : Type) (enc : TypeId × Value → H) (W : World) (base : Nat) (args : Array Value) (ds gs : List (DataW H)) (before : List MemPlace)
    (hval : ∀ (j : Nat) t v, Tryd.f5.params[j]? = some t → args[j]? = some v → Value.okWide Tryd.prog W .any base t v)
    (hW : DataW.Whole enc Tryd.prog Tryd.f5.params.toList Rows.sha256CompressSpec.vars false W args.toList ds gs before) (hL : laidMetH Tryd.prog Rows.sha256CompressRow.laid W)
    (hweigh : (DataW.weightsEach Tryd.prog (Tryd.f5.params.toList ++ (OpenSpec.ofChange Rows.sha256CompressSpec).bare.plain.varTypes Tryd.prog) (ds ++ gs)).all (· ≤ reachBytes) = true) :
    Calls Tryd.prog 5 args W fun e W' => ∃ v, e = .returned v ∧ Rows.sha256CompressSpec.post enc Tryd.prog Tryd.f5 false true false false W args v W' := by
  have hW' := hW
  obtain ⟨p, q, hA0, hV, rfl, _, _⟩ := hW
  have hA : DataW.TrodAll enc Tryd.prog W 0 (fun _ => true) true Tryd.f5.params.toList args.toList ds p := hA0
  rw [Tryd.params5] at hA hval
  obtain ⟨v0, vs0, d0, ds0, p0, q0, hargs0, rfl, rfl, h0, r0⟩ := trodAll_cons hA
  obtain ⟨v1, vs1, d1, ds1, p1, q1, hargs1, rfl, rfl, h1, r1⟩ := trodAll_cons r0
  subst hargs1
  obtain ⟨rfl, rfl, rfl⟩ := trodAll_nil r1
  obtain rfl : args = #[v0, v1] := by cases args; simp_all
  obtain ⟨rfl, rfl⟩ := trodVars_none hV
  clear hA0 hargs0

  have hlt : ∀ x ∈ (p0 ++ (p1 ++ [])) ++ [], x.block < W.heap.size := fun x hx => by simpa using hW'.lt x hx
  have hlt0 : ∀ x ∈ p0, x.block < W.heap.size := fun x hx => hlt x (by simp [hx])
  have ag0 : ∀ (W' : World), Below W.heap.size W W' → DataW.Trod enc Tryd.prog W' 0 (fun b => decide (b < W.heap.size)) true 30 v0 d0 p0 :=
    fun W' hn => Below.trod laidOut (by kernel_rfl) (of_decide_eq_true (by kernel_rfl)) h0 hn hlt0
  have hlt1 : ∀ x ∈ p1, x.block < W.heap.size := fun x hx => hlt x (by simp [hx])
  have ag1 : ∀ (W' : World), Below W.heap.size W W' → DataW.Trod enc Tryd.prog W' 0 (fun b => decide (b < W.heap.size)) true 37 v1 d1 p1 :=
    fun W' hn => Below.trod laidOut (by kernel_rfl) (of_decide_eq_true (by kernel_rfl)) h1 hn hlt1
  obtain ⟨l0, rfl, hl0, hw0⟩ := st_arg (hval 0 30 v0 rfl rfl)
  obtain ⟨l1, rfl, hl1, hb1⟩ := bytes_arr Tryd.underlying37 (by kernel_rfl) (hval 1 37 v1 rfl rfl)
  refine (law_com W (tabs_of hL) l0 l1 hl0 hw0 (by rw [hl1, cells37]) hb1).mono fun e W' ⟨he, hw⟩ => ?_
  subst he
  exact ⟨_, rfl, ⟨_, _, _, [], _, [], hW', trodAll_mk1 (shut_bool Tryd.underlying4 _), (trodAll_cons_mk (ag0 _ hw) (trodAll_cons_mk (ag1 _ hw) trodAll_mk0)), rfl, hw.frame _, fun h => by cases h⟩⟩

theorem laid_met (os : Os) : laidMet Tryd.prog Rows.sha256CompressRow.laid ((laidWorld os).forCall (fun _ _ => 0) ⟨#[], #[.agg (u32s (List.replicate 8 0)), .agg (u8s (List.replicate 64 0))], []⟩).memory :=
  laidMet_of_run' 8 (by kernel_rfl) (by kernel_rfl)
theorem reads (os : Os) {H : Type} (enc : TypeId × Value → H) : ∃ places, DataW.whole enc Tryd.prog ((laidWorld os).forCall (fun _ _ => 0) ⟨#[], #[.agg (u32s (List.replicate 8 0)), .agg (u8s (List.replicate 64 0))], []⟩).memory Tryd.f5.params.toList Rows.sha256CompressSpec.vars false (#[Value.agg (u32s (List.replicate 8 0)), .agg (u8s (List.replicate 64 0))] : Array Value).toList 8 = some ([.agg (List.replicate 8 (.lit (.int .u32 0))), .agg (List.replicate 64 (.lit (.int .u8 0)))], [], places) :=
  ⟨[], by kernel_rfl⟩

set_option maxRecDepth 100000 in
theorem lifted (os : Os) (started : os.Started) (H : Type) (enc : TypeId × Value → H) (F : Stop.Interp) :
    ReturnsInHanded {} Tryd.checked os 5 .any ((OpenSpec.ofChange Rows.sha256CompressSpec).preRow enc Tryd.prog Tryd.f5 Rows.sha256CompressRow.domain false Rows.sha256CompressRow.laid) (((OpenSpec.ofChange Rows.sha256CompressSpec).at F).post enc Tryd.prog Tryd.f5 false true false false) := by
  obtain ⟨places, hx⟩ := reads os enc
  refine returnsInHanded_of_row (C := Tryd.checked) (s := OpenSpec.ofChange Rows.sha256CompressSpec) own started (by kernel_rfl) Tryd.func5
    (witness_row_at (enc := enc) (C := Tryd.checked) false (laidWorld os) #[.agg (u32s (List.replicate 8 0)), .agg (u8s (List.replicate 64 0))] rfl (by kernel_rfl) (by kernel_rfl) (by kernel_rfl)
      (OpenSpec.preRow_of_cond 8 hx (by kernel_rfl) (fun k hk => by cases hk) (by kernel_rfl) (laid_met os))) ?_
  intro W base args ds gs before hval hW _ _ hweigh hL _ _
  exact contract H enc W base args ds gs before hval hW hL hweigh

theorem said : Rows.Sha256CompressSaid :=
  OpenClaim.holds_of_cond 5 Tryd.f5 rfl rfl rfl rfl rfl rfl rfl ⟨rfl, rfl, rfl, rfl, rfl⟩ rfl rfl rfl rfl rfl (by kernel_rfl) Tryd.func5 (by kernel_rfl)
    (of_decide_eq_true (by kernel_rfl)) (by unfold Func.isWrapper; first | (rw [if_pos (by decide +kernel)]; kernel_rfl) | (rw [if_neg (by decide +kernel)]; exact ⟨rfl, rfl⟩))
    (fun os started H enc _ F => by rw [OpenClaim.pre_eq_preRow]; exact lifted os started H enc F)

set_option maxRecDepth 100000 in
theorem plain (f : FuncId) (fn : Func) (hf : Tryd.pinned.checked.prog.funcNamed "giro/girolaw06.Sha256Compress" = some f) (hfn : Tryd.pinned.checked.prog.funcs[f]? = some fn) :
    false = Tryd.pinned.checked.prog.looks [] ∧ ∀ (j : Nat) t, fn.params[j]? = some t → Tryd.pinned.checked.prog.wantsStandIn t = false := by
  obtain rfl : f = 5 := Option.some.inj ((show Tryd.prog.funcNamed "giro/girolaw06.Sha256Compress" = some 5 by kernel_rfl).symm.trans hf) |>.symm
  obtain rfl : fn = Tryd.f5 := (Option.some.inj (Tryd.func5.symm.trans hfn)).symm
  refine ⟨by kernel_rfl, fun j t ht => ?_⟩
  rw [Tryd.params5] at ht
  have hm := Array.mem_of_getElem? ht
  simp only [List.mem_toArray, List.mem_cons, List.not_mem_nil, or_false] at hm
  rcases hm with rfl | rfl
  all_goals first
    | exact (show Tryd.prog.wantsStandIn 30 = false by kernel_rfl)
    | exact (show Tryd.prog.wantsStandIn 37 = false by kernel_rfl)

/-- THE CARD -/
theorem card : Rows.Sha256CompressCardSaid :=
  Claim7.holds_tied_plain_at .later [] _ _ _ _ said (fun _ h => by cases h) (by kernel_rfl) (fun _ h => by cases h) sha256Compress_row_tie rfl ⟨rfl, rfl⟩ (by kernel_rfl) rfl plain (by kernel_rfl)
end Go.Proofs.YtediocpdpghbfaaDoor.sha256Compress
