/- The law of Pad: the walk. -/
import Derived.Test.YtediocpdpghbfaaDoorLlen
import Derived.Test.YtediocpdpghbfaaDoorRegs
set_option linter.unusedSimpArgs false
set_option linter.unusedVariables false
namespace Go.Proofs.YtediocpdpghbfaaDoor
open Go Go.RowKit

set_option maxRecDepth 100000 in
set_option maxHeartbeats 1000000 in
theorem law_pad_bad (w : World) (hT : Tabs w) (n : Int) (hn : n < 0 ∨ 72057594037927936 < n) :
    Calls Tryd.prog 7 #[.int .i64 n] w fun e w' => e = .returned (.bool true) ∧ Below w.heap.size w w' := by
  have HA := Lib.hid hT; clear hT
  have t1 : (if n < 0 then true else decide (72057594037927936 < n)) = true := by rcases hn with h | h <;> simp [h]
  have hp := pad_bad n hn
  go_enter Tryd.func7, Tryd.ntmps7
  go_wp2_with fail
  refine (hp w).mono ?_
  rintro e w1 ⟨rfl, rfl⟩
  by_cases h : n < 0
  · go_wp2_with fail
    refine (known_any _ HA.out).mono ?_
    rintro e w4 ⟨rfl, B4⟩
    have H4 := Lib.hid B4; clear B4
    go_wp2_with fail
    go_ret
    exact ⟨rfl, H4.out⟩
  · have t4 : 72057594037927936 < n := by omega
    have t3 : decide (72057594037927936 < n) = true := by simp; omega
    go_wp2_with fail
    refine (known_any _ HA.out).mono ?_
    rintro e w4 ⟨rfl, B4⟩
    have H4 := Lib.hid B4; clear B4
    go_wp2_with fail
    go_ret
    exact ⟨rfl, H4.out⟩
set_option maxRecDepth 100000 in
set_option maxHeartbeats 1000000 in
theorem law_pad_good (w : World) (hT : Tabs w) (n : Nat) (hn : n ≤ 72057594037927936) :
    Calls Tryd.prog 7 #[.int .i64 n] w fun e w' => e = .returned (.bool true) ∧ Below w.heap.size w w' := by
  have hpl := padL_length n
  have hps : padSize n = 64 - (n + 8) % 64 := rfl
  obtain ⟨m, hm⟩ : ∃ m, (padL n).length = m := ⟨_, rfl⟩
  have hm9 : 9 ≤ m ∧ m ≤ 72 ∧ (n % 64 + m) % 64 = 0 := by omega
  have hbb : Bytes (padL n) := Bytes.padL n
  have HP := Lib.hid (pad_any n hn w)
  have HR := Lib.hid (fun W => rpad_any n hn W)
  rw [hm] at HP HR
  generalize padL n = L at *
  have t1 : (((n : Int) % 64 + (m : Int)) % 64 == 0) = true := by rw [beq_iff_eq]; omega
  have t2 : decide ((9 : Int) ≤ m) = true := by simp; omega
  have t3 : decide ((m : Int) ≤ 72) = true := by simp; omega
  have t4 : decide ((72057594037927936 : Int) < n) = false := by simp; omega
  have t5 : decide ((n : Int) < 0) = false := by simp
  have HA := Lib.hid (And.intro hT (And.intro hm hbb)); clear hT hm hbb hpl hps
  go_enter Tryd.func7, Tryd.ntmps7
  go_wp2_with fail
  refine HP.out.mono ?_
  rintro e w1 ⟨rfl, E, B1⟩
  have k1 := convert_rw w1 (some ⟨w.heap.size, 0, none⟩) m L m HA.out.2.1 HA.out.2.2 E.rw
  have k2 := convert_rw w1.drew (some ⟨w.heap.size, 0, none⟩) m L m HA.out.2.1 HA.out.2.2 E.drew.rw
  have hse : ((strOf L).toList == (strOf L).toList) = true := by simp
  have T1 := HA.out.1.below B1 HA.out.1.two
  have HE := Lib.hid (And.intro E (And.intro B1 T1)); clear E B1 T1 HP
  go_wp2_with fail
  refine wp_region_segs [0, 0, 0, 0, 0, 0, 1, 2, 2, 2, 2, 2, 2, 2, 2, 2, 2, 2, 2, 2, 2, 2, 2, 2, 2, 2, 2, 2, 2, 2, 3, 4, 4] 2 (by kernel_rfl) (by kernel_rfl) (fun _ _ d _ _ h => by cases d <;> exact h) (segs_go fun K hK => ?_)
  simp only [pickC, ↓reduceIte, Nat.reduceEqDiff]
  go_wp2_with fail
  refine hK.out _ (seg_act fun K2 hK2 => ?_)
  clear hK K
  simp only [pickC, ↓reduceIte, Nat.reduceEqDiff, Nat.reduceAdd]
  go_wp2_with fail
  refine (HR.out _).mono ?_
  rintro e w2 ⟨A2, c2, rfl, O2, B2⟩
  go_wp2_with fail
  refine hK2.out _ _ B2 (segs_go fun K hK => ?_)
  clear hK2 K2
  have k3 := convert_rw w2 A2 c2 L m HA.out.2.1 HA.out.2.2 O2.rw
  have T2 := HE.out.2.2.drew.below B2 HE.out.2.2.drew.two
  have H2 := Lib.hid (And.intro B2 T2)
  clear O2 B2 T2
  simp only [pickC, ↓reduceIte, Nat.reduceEqDiff, Nat.reduceAdd]
  go_wp2_with fail
  refine hK.out _ (seg_act fun K2 hK2 => ?_)
  clear hK K
  simp only [pickC, ↓reduceIte, Nat.reduceEqDiff, Nat.reduceAdd]
  go_wp2_with fail
  refine (known_any _ H2.out.2).mono ?_
  rintro e w3 ⟨rfl, B3⟩
  go_wp2_with fail
  refine hK2.out _ _ B3 (segs_end fun K hK => ?_)
  clear hK2 K2
  have H3 := Lib.hid B3
  clear B3
  simp only [pickC, ↓reduceIte, Nat.reduceEqDiff, Nat.reduceAdd]
  go_wp2_with fail
  refine hK.out _ ?_
  go_wp2_with fail
  go_ret
  exact ⟨rfl, (HE.out.2.1.drew.trans (H2.out.1.mono HE.out.2.1.size)).trans (H3.out.mono (Nat.le_trans HE.out.2.1.size H2.out.1.size))⟩
theorem law_pad (w : World) (hT : Tabs w) (n : Int) : Calls Tryd.prog 7 #[.int .i64 n] w fun e w' => e = .returned (.bool true) ∧ Below w.heap.size w w' := by
  by_cases h : n < 0 ∨ 72057594037927936 < n
  · exact law_pad_bad w hT n h
  · obtain ⟨m, rfl⟩ : ∃ m : Nat, n = m := ⟨n.toNat, by omega⟩
    exact law_pad_good w hT m (by omega)
end Go.Proofs.YtediocpdpghbfaaDoor
