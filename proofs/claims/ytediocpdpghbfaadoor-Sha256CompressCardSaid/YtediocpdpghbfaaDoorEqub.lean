/- Equality of arrays of 8 words. -/
import Derived.Test.YtediocpdpghbfaaDoorEqua
set_option linter.unusedSimpArgs false
set_option linter.unusedVariables false
namespace Go.Proofs.YtediocpdpghbfaaDoor
open Go Go.RowKit

theorem run_part28 (w : World) (l : List Nat) (i : Nat) (hi : i < l.length) : (Go.part 28 (u32s l) (i * 1)).run Tryd.prog w = .ok (.int .u32 (l.getD i 0 : Nat)) w := by
  have h1 := u32s_at l i hi
  have hs : (Tryd.prog.info? 28).map (·.size) = some 1 := by kernel_rfl
  cases hq : Tryd.prog.info? 28 with
  | none => simp [hq] at hs
  | some j =>
    have hj : j.size = 1 := by simpa [hq] using hs
    simp [Go.part, isAgg, sizeOf, typeInfo, hq, hj, run_underlying Tryd.underlying28, h1]
theorem run_sizeOf28 (w : World) : (sizeOf 28).run Tryd.prog w = .ok 1 w := by
  have hs : (Tryd.prog.info? 28).map (·.size) = some 1 := by kernel_rfl
  cases hq : Tryd.prog.info? 28 with
  | none => simp [hq] at hs
  | some j =>
    have hj : j.size = 1 := by simpa [hq] using hs
    simp [sizeOf, typeInfo, hq, hj]
theorem run_equalIn_u32s (w : World) (a b : List Nat) (ha : a.length = 8) (hb : b.length = 8) :
    (Op.equalIn (9998 + 1 + 1) 30 (.agg (u32s a)) (.agg (u32s b))).run Tryd.prog w = .ok (decide (a = b)) w := by
  have hin : ∀ (w : World) (x y : Int), (Op.equalIn (9998 + 1) 28 (.int .u32 x) (.int .u32 y)).run Tryd.prog w = .ok (x == y) w := fun w x y => run_equalIn_int w 9998 28 .u32 .u32 x y Tryd.underlying28
  revert hin
  generalize 9998 + 1 = d
  intro hin
  rw [Op.equalIn]
  simp only [Sem.run_bind, run_underlying Tryd.underlying30, Result.andThen_ok, run_sizeOf28]
  rw [Std.Legacy.Range.forIn_eq_forIn_range']
  have key : ∀ (ls : List Nat), (∀ i ∈ ls, i < 8) → ∀ w : World, ((forIn (m := Sem) ls ((none, ()) : Option Bool × Unit) fun i r => do
      let x ← Go.part 28 (u32s a) (i * 1)
      let y ← Go.part 28 (u32s b) (i * 1)
      let e ← Op.equalIn d 28 x y
      if (!e) = true then pure (ForInStep.done (some false, ())) else pure (ForInStep.yield (none, ()))).run Tryd.prog w) = .ok (if ls.all (fun i => a.getD i 0 == b.getD i 0) then (none, ()) else (some false, ())) w := by
    intro ls
    induction ls with
    | nil => intro _ w; simp
    | cons i ls ih =>
      intro hi w
      have hi0 := hi i (by simp)
      have ihh := ih (fun j hj => hi j (by simp [hj])) w
      simp only [List.forIn_cons, Sem.run_bind, run_part28 w a i (by omega), run_part28 w b i (by omega), Result.andThen_ok, hin]
      by_cases he : a.getD i 0 = b.getD i 0
      · simp only [he, List.all_cons, beq_self_eq_true, Bool.not_true, Bool.false_eq_true, if_false, Sem.run_pure, Result.andThen_ok, Bool.true_and]
        exact ihh
      · have hne : ((a.getD i 0 : Nat) : Int) ≠ ((b.getD i 0 : Nat) : Int) := by omega
        have h1 : (((a.getD i 0 : Nat) : Int) == ((b.getD i 0 : Nat) : Int)) = false := beq_eq_false_iff_ne.2 hne
        have h2 : (a.getD i 0 == b.getD i 0) = false := by simpa using he
        simp only [h1, List.all_cons, h2, Bool.not_false, if_true, Sem.run_pure, Result.andThen_ok, Bool.false_and, Bool.false_eq_true, if_false]
  have hk := key (List.range' 0 8 1) (by intro i hi; simp at hi; omega) w
  have hz : ([:8] : Std.Legacy.Range).size = 8 := by rfl
  simp only [hz]
  rw [hk]
  simp only [Result.andThen_ok]
  have hiff : (List.range' 0 8 1).all (fun i => a.getD i 0 == b.getD i 0) = decide (a = b) := by
    rw [Bool.eq_iff_iff]
    simp only [List.all_eq_true, decide_eq_true_eq, List.mem_range'_1, beq_iff_eq]
    constructor
    · intro h
      refine List.ext_getElem (by omega) fun i h1 h2 => ?_
      have := h i (by omega)
      simpa [List.getD_eq_getElem?_getD, List.getElem?_eq_getElem h1, List.getElem?_eq_getElem h2] using this
    · rintro rfl i _; rfl
  rw [hiff]
  by_cases he : a = b <;> simp [he]
theorem run_equalIn_st (w : World) (a b : List Nat) (ha : a.length = 8) (hb : b.length = 8) :
    (Op.equalIn 10000 30 (.agg (u32s a)) (.agg (u32s b))).run Tryd.prog w = .ok (decide (a = b)) w := run_equalIn_u32s w a b ha hb
end Go.Proofs.YtediocpdpghbfaaDoor
