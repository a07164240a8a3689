/- Merkle: the split of a number, the root of leaves (plain), the two functions split. -/
import Derived.Test.YtediocpdpghbfaaDoorMref
set_option linter.unusedSimpArgs false
set_option linter.unusedVariables false
namespace Go.Proofs.YtediocpdpghbfaaDoor
open Go Go.RowKit

/-! ### plain -/
def splitGo : Nat → Nat → Nat → Nat
  | 0, k, _ => k
  | f + 1, k, n => if 2 * k < n then splitGo f (2 * k) n else k
def splitL (n : Nat) : Nat := splitGo n 1 n
theorem splitGo_bd : ∀ (f k n : Nat), 1 ≤ k → k < n → n ≤ k + f → k ≤ splitGo f k n ∧ splitGo f k n < n ∧ n ≤ 2 * splitGo f k n
  | 0, k, n, h1, h2, h3 => by omega
  | f + 1, k, n, h1, h2, h3 => by
    unfold splitGo
    by_cases h : 2 * k < n
    · rw [if_pos h]
      have := splitGo_bd f (2 * k) n (by omega) h (by omega)
      omega
    · rw [if_neg h]; omega
theorem splitL_bd (n : Nat) (h : 2 ≤ n) : 1 ≤ splitL n ∧ splitL n < n ∧ n ≤ 2 * splitL n := splitGo_bd n 1 n (Nat.le_refl _) (by omega) (by omega)
set_option maxRecDepth 100000 in
theorem msplit_any (n : Nat) (hn : n ≤ 1000000000) (w : World) : Calls Tryd.prog 78 #[.int .i64 n] w fun e w' => e = .returned (.int .i64 (splitL n : Nat)) ∧ w = w' := by
  obtain ⟨s, hs⟩ : ∃ s, splitL n = s := ⟨_, rfl⟩
  rw [hs]
  have HS := Lib.hid hs; clear hs
  go_enter Tryd.func78, Tryd.ntmps78
  go_wp2_with fail
  go_loopg [3] n (fun f kv wr => ∃ k : Nat, kv = .int .i64 k ∧ 1 ≤ k ∧ k ≤ n + 1 ∧ n ≤ k + f ∧ splitGo f k n = s ∧ w = wr)
  case atStart => exact ⟨1, rfl, Nat.le_refl _, by omega, by omega, HS.out, rfl⟩
  case round =>
    obtain ⟨k, rfl, h1, h2, h3, h4, rfl⟩ := hrel
    have H4 := Lib.hid h4; clear h4
    by_cases h : 2 * k < n
    · have t : decide (2 * (k : Int) < (n : Int)) = true := by simp; omega
      go_wp2_with fail
      obtain ⟨f, rfl⟩ : ∃ f, gk = f + 1 := ⟨gk - 1, by omega⟩
      go_roundg f
      case measure => omega
      case rel =>
        have h4 := H4.out
        unfold splitGo at h4
        rw [if_pos h] at h4
        exact ⟨2 * k, by go_num, by omega, by omega, by omega, h4, rfl⟩
    · have t : decide (2 * (k : Int) < (n : Int)) = false := by simp; omega
      go_wp2_with fail
      go_ret
      have h4 := H4.out
      refine ⟨?_, rfl⟩
      cases gk with
      | zero => unfold splitGo at h4; rw [← h4]; rfl
      | succ f => unfold splitGo at h4; rw [if_neg h] at h4; rw [← h4]; rfl
set_option maxRecDepth 100000 in
theorem rsplit_any (n : Nat) (hn : n ≤ 1000000000) (w : World) : Calls Tryd.prog 75 #[.int .i64 n] w fun e w' => e = .returned (.int .i64 (splitL n : Nat)) ∧ w = w' := by
  obtain ⟨s, hs⟩ : ∃ s, splitL n = s := ⟨_, rfl⟩
  rw [hs]
  have HS := Lib.hid hs; clear hs
  go_enter Tryd.func75, Tryd.ntmps75
  go_wp2_with fail
  go_loopg [3] n (fun f kv wr => ∃ k : Nat, kv = .int .i64 k ∧ 1 ≤ k ∧ k ≤ n + 1 ∧ n ≤ k + f ∧ splitGo f k n = s ∧ w = wr)
  case atStart => exact ⟨1, rfl, Nat.le_refl _, by omega, by omega, HS.out, rfl⟩
  case round =>
    obtain ⟨k, rfl, h1, h2, h3, h4, rfl⟩ := hrel
    have H4 := Lib.hid h4; clear h4
    by_cases h : 2 * k < n
    · have t : decide (2 * (k : Int) < (n : Int)) = true := by simp; omega
      go_wp2_with fail
      obtain ⟨f, rfl⟩ : ∃ f, gk = f + 1 := ⟨gk - 1, by omega⟩
      go_roundg f
      case measure => omega
      case rel =>
        have h4 := H4.out
        unfold splitGo at h4
        rw [if_pos h] at h4
        exact ⟨2 * k, by go_num, by omega, by omega, by omega, h4, rfl⟩
    · have t : decide (2 * (k : Int) < (n : Int)) = false := by simp; omega
      go_wp2_with fail
      go_ret
      have h4 := H4.out
      refine ⟨?_, rfl⟩
      cases gk with
      | zero => unfold splitGo at h4; rw [← h4]; rfl
      | succ f => unfold splitGo at h4; rw [if_neg h] at h4; rw [← h4]; rfl
end Go.Proofs.YtediocpdpghbfaaDoor
