/- Merkle: Prove of the program. -/
import Derived.Test.YtediocpdpghbfaaDoorMprv
import Derived.Laws.EntriesVeiled
set_option linter.unusedSimpArgs false
set_option linter.unusedVariables false
namespace Go.Proofs.YtediocpdpghbfaaDoor
open Go Go.RowKit

set_option maxRecDepth 100000 in
set_option maxHeartbeats 1000000 in
theorem mprove_any (n : Nat) (ps : List (List Nat)) (i : Nat) (w : World) (A : Option Addr) (cap : Nat) (hl : ps.length = n) (hn : n ≤ 65536) (hcap : n ≤ cap) (hcm : cap ≤ 9223372036854775807) (hi : i < n) (hT : Tabs w) (hP : PL w A ps) :
    Calls Tryd.prog 49 #[.slice A n cap, .int .i64 i] w fun e w' => ∃ A' c', e = .returned (.tuple #[.slice A' (proveL ps i).length c', .int .i64 0]) ∧ OH w' w.heap.size A' (proveL ps i).length c' (proveL ps i) ∧ Below w.heap.size w w' := by
  obtain ⟨W, hW⟩ : ∃ W, W = (w.alloc (.cells #[.slice none 0 0] 67)).alloc (.cells #[fn77 (w.heap.size + 1) w.heap.size] 115) := ⟨_, rfl⟩
  have E0 : Blk W w.heap.size 67 #[.slice none 0 0] := by rw [hW]; exact (Blk.new _ _ _).alloc _
  have E1 : Blk W (w.heap.size + 1) 115 #[fn77 (w.heap.size + 1) w.heap.size] := by rw [hW]; exact Blk.new1 _ _ _ _
  have B0 : Below w.heap.size w W := by rw [hW]; exact ((Below.refl _ _).alloc (Nat.le_refl _) _).alloc (by simp) _
  have S0 : PrvSt w W (w.heap.size + 1) w.heap.size 0 [] := ⟨⟨hT, B0⟩, by omega, by omega, by omega, E1, none, 0, E0, oh_nil _ _⟩
  have hw := walk77 w (w.heap.size + 1) w.heap.size n ps i A cap _ 0 [] hl (by omega) hn hcap hcm hi (by omega) hP S0
  rw [Nat.zero_add, List.nil_append] at hw
  have HW := Lib.hid hw
  clear hw S0 B0 E1 E0 hT hP hl
  generalize proveL ps i = q at *
  have t2 : decide (n ≤ i) = false := by simp; omega
  have t3 : decide ((i : Int) < 0) = false := by simp
  go_enter Tryd.func49, Tryd.ntmps49
  go_wp2_with fail
  change Calls _ _ _ ((w.alloc (.cells #[.slice none 0 0] 67)).alloc (.cells #[fn77 (w.heap.size + 1) w.heap.size] 115)) _
  rw [← hW]
  clear hW
  refine HW.out.mono ?_
  rintro e w1 ⟨rfl, S1⟩
  obtain ⟨Ap, cp, Ep, Oh⟩ := S1.ep
  have c1 := Ep.cell 0
  have H1 := Lib.hid (And.intro S1 Oh)
  clear S1 Oh
  go_wp2_with fail
  go_ret2
  exact ⟨Ap, cp, rfl, ⟨H1.out.2.1, H1.out.2.2.1, H1.out.2.2.2.1, by
    rcases H1.out.2.2.2.2 with h2 | ⟨k, cap', cur, hv, hk, hh, h3, h4, h5, h6⟩
    · exact .inl h2
    · exact .inr ⟨k, cap', cur, hv, by omega, hh, h3, h4, h5, h6⟩⟩, H1.out.1.at_.b⟩
set_option maxRecDepth 100000 in
theorem mprove_bad (n : Nat) (i : Int) (w : World) (A : Option Addr) (cap : Nat) (hn : n ≤ 65536) (hi : i < 0 ∨ (n : Int) ≤ i) :
    Calls Tryd.prog 49 #[.slice A n cap, .int .i64 i] w fun e w' => e = .returned (.tuple #[.slice none 0 0, .int .i64 2]) ∧ w = w' := by
  rcases hi with h | h
  · go_enter Tryd.func49, Tryd.ntmps49
    go_wp2_with fail
    go_ret2
    exact ⟨rfl, rfl⟩
  · by_cases h0 : i < 0
    · exact absurd h (by omega)
    · have t2 : decide ((n : Int) ≤ i) = true := by simpa using h
      go_enter Tryd.func49, Tryd.ntmps49
      go_wp2_with fail
      go_ret2
      exact ⟨rfl, rfl⟩
end Go.Proofs.YtediocpdpghbfaaDoor
