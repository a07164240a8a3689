/- Merkle: ProveConsistency of the program. -/
import Derived.Test.YtediocpdpghbfaaDoorMcon
import Derived.Laws.EntriesVeiled
set_option linter.unusedSimpArgs false
set_option linter.unusedVariables false
namespace Go.Proofs.YtediocpdpghbfaaDoor
open Go Go.RowKit

def consL (l : List (List Nat)) (m : Nat) : List (List Nat) := if m = 0 ∨ m = l.length then [] else subL l m true
theorem OH.base_le {w : World} {base base' : Nat} {A : Option Addr} {n cap : Nat} {hs : List (List Nat)} (h : OH w base A n cap hs) (hb : base' ≤ base) : OH w base' A n cap hs :=
  ⟨h.1, h.2.1, h.2.2.1, by
    rcases h.2.2.2 with h2 | ⟨k, cap', cur, hv, hk, hh, h3, h4, h5, h6⟩
    · exact .inl h2
    · exact .inr ⟨k, cap', cur, hv, by omega, hh, h3, h4, h5, h6⟩⟩
set_option maxRecDepth 100000 in
set_option maxHeartbeats 1000000 in
theorem mpcons_any (n : Nat) (ps : List (List Nat)) (i : Nat) (w : World) (A : Option Addr) (cap : Nat) (hl : ps.length = n) (hn : n ≤ 65536) (hcap : n ≤ cap) (hcm : cap ≤ 9223372036854775807) (hi : i ≤ n) (hT : Tabs w) (hP : PL w A ps) :
    Calls Tryd.prog 56 #[.slice A n cap, .int .i64 i] w fun e w' => ∃ A' c', e = .returned (.tuple #[.slice A' (consL ps i).length c', .int .i64 0]) ∧ OH w' w.heap.size A' (consL ps i).length c' (consL ps i) ∧ Below w.heap.size w w' := by
  by_cases h0 : i = 0 ∨ i = n
  · have hq : consL ps i = [] := by unfold consL; rw [if_pos (by rw [hl]; exact h0)]
    rw [hq]
    clear hq hP hT
    have t2 : decide ((n : Int) < (i : Int)) = false := by simp; omega
    by_cases hz : i = 0
    · subst hz
      go_enter Tryd.func56, Tryd.ntmps56
      go_wp2_with fail
      go_ret2
      exact ⟨none, 0, rfl, oh_nil _ _, Below.refl _ _⟩
    · obtain rfl : i = n := by omega
      have t0 : ((i : Int) == 0) = false := by rw [beq_eq_false_iff_ne]; omega
      have t1 : ((i : Int) == (i : Int)) = true := by simp
      go_enter Tryd.func56, Tryd.ntmps56
      go_wp2_with fail
      go_ret2
      exact ⟨none, 0, rfl, oh_nil _ _, Below.refl _ _⟩
  · have hq : consL ps i = subL ps i true := by unfold consL; rw [if_neg (by rw [hl]; exact h0)]
    rw [hq]
    obtain ⟨W, hW⟩ : ∃ W, W = (w.alloc (.cells #[.slice none 0 0] 67)).alloc (.cells #[fn81 (w.heap.size + 1) w.heap.size] 122) := ⟨_, rfl⟩
    have E0 : Blk W w.heap.size 67 #[.slice none 0 0] := by rw [hW]; exact (Blk.new _ _ _).alloc _
    have E1 : Blk W (w.heap.size + 1) 122 #[fn81 (w.heap.size + 1) w.heap.size] := by rw [hW]; exact Blk.new1 _ _ _ _
    have B0 : Below w.heap.size w W := by rw [hW]; exact ((Below.refl _ _).alloc (Nat.le_refl _) _).alloc (by simp) _
    have S0 : PrcSt w W (w.heap.size + 1) w.heap.size 0 [] := ⟨⟨hT, B0⟩, by omega, by omega, by omega, E1, none, 0, E0, oh_nil _ _⟩
    have hw := walk81 w (w.heap.size + 1) w.heap.size n ps i true A cap _ 0 [] hl (by omega) hn hcap hcm hi (by omega) hP S0
    rw [Nat.zero_add, List.nil_append] at hw
    have HW := Lib.hid hw
    clear hw S0 B0 E1 E0 hT hP hl hq
    generalize subL ps i true = q at *
    have t2 : decide ((n : Int) < (i : Int)) = false := by simp; omega
    have t0 : ((i : Int) == 0) = false := by rw [beq_eq_false_iff_ne]; omega
    have t1 : ((i : Int) == (n : Int)) = false := by rw [beq_eq_false_iff_ne]; omega
    clear h0
    go_enter Tryd.func56, Tryd.ntmps56
    go_wp2_with fail
    change Calls _ _ _ ((w.alloc (.cells #[.slice none 0 0] 67)).alloc (.cells #[fn81 (w.heap.size + 1) w.heap.size] 122)) _
    rw [← hW]
    clear hW
    refine HW.out.mono ?_
    rintro e w1 ⟨rfl, S1⟩
    obtain ⟨Ap, cp, Ep, Oh⟩ := S1.ep
    have c1 := Ep.cell 0
    have H1 := Lib.hid (And.intro S1 Oh)
    clear S1 Oh
    go_wp2_with fail
    go_ret2
    exact ⟨Ap, cp, rfl, H1.out.2.base_le (by omega), H1.out.1.at_.b⟩
set_option maxRecDepth 100000 in
theorem mpcons_bad (n : Nat) (i : Int) (w : World) (A : Option Addr) (cap : Nat) (hn : n ≤ 65536) (hi : i < 0 ∨ (n : Int) < i) :
    Calls Tryd.prog 56 #[.slice A n cap, .int .i64 i] w fun e w' => e = .returned (.tuple #[.slice none 0 0, .int .i64 2]) ∧ w = w' := by
  rcases hi with h | h
  · go_enter Tryd.func56, Tryd.ntmps56
    go_wp2_with fail
    go_ret2
    exact ⟨rfl, rfl⟩
  · by_cases h0 : i < 0
    · exact absurd h (by omega)
    · have t2 : decide ((n : Int) < i) = true := by simpa using h
      go_enter Tryd.func56, Tryd.ntmps56
      go_wp2_with fail
      go_ret2
      exact ⟨rfl, rfl⟩
end Go.Proofs.YtediocpdpghbfaaDoor
