/- Equality of arrays of 32 bytes; string(b) of a readable slice. -/
import Derived.Test.YtediocpdpghbfaaDoorApp
import Derived.Laws.BytesArg
set_option linter.unusedSimpArgs false
set_option linter.unusedVariables false
namespace Go.Proofs.YtediocpdpghbfaaDoor
open Go Go.RowKit

theorem run_part5 (w : World) (l : List Nat) (i : Nat) (hi : i < l.length) : (Go.part 5 (u8s l) (i * 1)).run Tryd.prog w = .ok (.int .u8 (l.getD i 0 : Nat)) w := by
  have h1 := u8s_at l i hi
  have hs : (Tryd.prog.info? 5).map (·.size) = some 1 := by kernel_rfl
  cases hq : Tryd.prog.info? 5 with
  | none => simp [hq] at hs
  | some j =>
    have hj : j.size = 1 := by simpa [hq] using hs
    simp [Go.part, isAgg, sizeOf, typeInfo, hq, hj, run_underlying Tryd.underlying5, h1]
theorem run_sizeOf5 (w : World) : (sizeOf 5).run Tryd.prog w = .ok 1 w := by
  have hs : (Tryd.prog.info? 5).map (·.size) = some 1 := by kernel_rfl
  cases hq : Tryd.prog.info? 5 with
  | none => simp [hq] at hs
  | some j =>
    have hj : j.size = 1 := by simpa [hq] using hs
    simp [sizeOf, typeInfo, hq, hj]
theorem run_equalIn_u8s (w : World) (a b : List Nat) (ha : a.length = 32) (hb : b.length = 32) :
    (Op.equalIn (9998 + 1 + 1) 25 (.agg (u8s a)) (.agg (u8s b))).run Tryd.prog w = .ok (decide (a = b)) w := by
  have hin : ∀ (w : World) (x y : Int), (Op.equalIn (9998 + 1) 5 (.int .u8 x) (.int .u8 y)).run Tryd.prog w = .ok (x == y) w := fun w x y => run_equalIn_int w 9998 5 .u8 .u8 x y Tryd.underlying5
  revert hin
  generalize 9998 + 1 = d
  intro hin
  rw [Op.equalIn]
  simp only [Sem.run_bind, run_underlying Tryd.underlying25, Result.andThen_ok, run_sizeOf5]
  rw [Std.Legacy.Range.forIn_eq_forIn_range']
  have key : ∀ (ls : List Nat), (∀ i ∈ ls, i < 32) → ∀ w : World, ((forIn (m := Sem) ls ((none, ()) : Option Bool × Unit) fun i r => do
      let x ← Go.part 5 (u8s a) (i * 1)
      let y ← Go.part 5 (u8s b) (i * 1)
      let e ← Op.equalIn d 5 x y
      if (!e) = true then pure (ForInStep.done (some false, ())) else pure (ForInStep.yield (none, ()))).run Tryd.prog w) = .ok (if ls.all (fun i => a.getD i 0 == b.getD i 0) then (none, ()) else (some false, ())) w := by
    intro ls
    induction ls with
    | nil => intro _ w; simp
    | cons i ls ih =>
      intro hi w
      have hi0 := hi i (by simp)
      have ihh := ih (fun j hj => hi j (by simp [hj])) w
      simp only [List.forIn_cons, Sem.run_bind, run_part5 w a i (by omega), run_part5 w b i (by omega), Result.andThen_ok, hin]
      by_cases he : a.getD i 0 = b.getD i 0
      · simp only [he, List.all_cons, beq_self_eq_true, Bool.not_true, Bool.false_eq_true, if_false, Sem.run_pure, Result.andThen_ok, Bool.true_and]
        exact ihh
      · have hne : ((a.getD i 0 : Nat) : Int) ≠ ((b.getD i 0 : Nat) : Int) := by omega
        have h1 : (((a.getD i 0 : Nat) : Int) == ((b.getD i 0 : Nat) : Int)) = false := beq_eq_false_iff_ne.2 hne
        have h2 : (a.getD i 0 == b.getD i 0) = false := by simpa using he
        simp only [h1, List.all_cons, h2, Bool.not_false, if_true, Sem.run_pure, Result.andThen_ok, Bool.false_and, Bool.false_eq_true, if_false]
  have hk := key (List.range' 0 32 1) (by intro i hi; simp at hi; omega) w
  have hz : ([:32] : Std.Legacy.Range).size = 32 := by rfl
  simp only [hz]
  rw [hk]
  simp only [Result.andThen_ok]
  have hiff : (List.range' 0 32 1).all (fun i => a.getD i 0 == b.getD i 0) = decide (a = b) := by
    rw [Bool.eq_iff_iff]
    simp only [List.all_eq_true, decide_eq_true_eq, List.mem_range'_1, beq_iff_eq]
    constructor
    · intro h
      refine List.ext_getElem (by omega) fun i h1 h2 => ?_
      have := h i (by omega)
      simpa [List.getD_eq_getElem?_getD, List.getElem?_eq_getElem h1, List.getElem?_eq_getElem h2] using this
    · rintro rfl i _; rfl
  rw [hiff]
  by_cases he : a = b <;> simp [he]
theorem run_equalIn_dig (w : World) (a b : List Nat) (ha : a.length = 32) (hb : b.length = 32) :
    (Op.equalIn 10000 25 (.agg (u8s a)) (.agg (u8s b))).run Tryd.prog w = .ok (decide (a = b)) w := run_equalIn_u8s w a b ha hb
theorem run_eql_dig (w : World) (a b : List Nat) (ha : a.length = 32) (hb : b.length = 32) :
    (binOp .eql 25 (.agg (u8s a)) (.agg (u8s b))).run Tryd.prog w = .ok (.bool (decide (a = b))) w := by
  rw [run_eql_struct]
  rw [show (10000 : Nat) = 9998 + 1 + 1 from rfl, run_equalIn_u8s w a b ha hb]
  rfl

theorem convert_rw (w : World) (A : Option Addr) (cap : Nat) (l : List Nat) (n : Nat) (hn : l.length = n) (hb : Bytes l) (hr : RW w A cap l) :
    (convert 22 9 (.slice A n cap)).run Tryd.prog w = .ok (.string (strOf l)) w := by
  cases A with
  | none =>
    obtain ⟨rfl, rfl⟩ := hr.1 rfl
    exact run_convert_bytes_nil (P := Tryd.prog) w 22 5 Tryd.underlying22 Tryd.underlying5 n 0 9 Tryd.underlying9
  | some ad =>
    have := run_convert_bytes_back (P := Tryd.prog) w 22 9 5 ad cap (l.map UInt8.ofNat) Tryd.underlying22 Tryd.underlying5 Tryd.underlying9 (fun j hj => by
      simp only [List.length_map] at hj
      have h256 := hb.mem _ (List.getElem_mem hj)
      obtain ⟨h1, h2, h3⟩ := hr.2 ad rfl (fun e => by rw [e] at hj; simp at hj)
      obtain ⟨ab, ao, asp⟩ := ad
      simp only at h1 h2 h3
      subst h1
      rw [addr_add, h3 j hj]
      simp [List.getD_eq_getElem?_getD, List.getElem?_eq_getElem hj]
      omega)
    rw [List.length_map, hn] at this
    exact this
end Go.Proofs.YtediocpdpghbfaaDoor
