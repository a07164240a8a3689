/- Merkle: Equal of trees. -/
import Derived.Test.YtediocpdpghbfaaDoorGenP
import Derived.Test.YtediocpdpghbfaaDoorRegv
set_option linter.unusedSimpArgs false
set_option linter.unusedVariables false
namespace Go.Proofs.YtediocpdpghbfaaDoor
open Go Go.RowKit

set_option maxRecDepth 100000 in
theorem mequal_nn (w : World) : Calls Tryd.prog 62 #[.pointer none, .pointer none] w fun e w' => e = .returned (.bool true) ∧ w = w' := by
  go_enter Tryd.func62, Tryd.ntmps62
  go_wp2_with fail
  go_ret
  exact ⟨rfl, rfl⟩
set_option maxRecDepth 100000 in
theorem mequal_ns (w : World) (g : Nat) : Calls Tryd.prog 62 #[.pointer none, .pointer (some ⟨g, 0, none⟩)] w fun e w' => e = .returned (.bool false) ∧ w = w' := by
  have hq : ∀ W : World, (binOp .eql 63 (.pointer none) (.pointer (some ⟨g, 0, none⟩))).run Tryd.prog W = .ok (.bool false) W := fun _ => by kernel_rfl
  go_enter Tryd.func62, Tryd.ntmps62
  go_wp2_with fail
  go_ret
  exact ⟨rfl, rfl⟩
set_option maxRecDepth 100000 in
theorem mequal_sn (w : World) (g : Nat) : Calls Tryd.prog 62 #[.pointer (some ⟨g, 0, none⟩), .pointer none] w fun e w' => e = .returned (.bool false) ∧ w = w' := by
  go_enter Tryd.func62, Tryd.ntmps62
  go_wp2_with fail
  go_ret
  exact ⟨rfl, rfl⟩
set_option maxRecDepth 100000 in
set_option maxHeartbeats 2000000 in
theorem mequal_any (w : World) (hT : Tabs w) (g n g2 n2 : Nat) (hn : n ≤ 65536) (hn2 : n2 ≤ 65536) (hs hs2 : List (List Nat)) (hl : hs.length = 17) (hd : Digs hs) (hl2 : hs2.length = 17) (hd2 : Digs hs2) (hE : Blk w g 111 (treeC n hs)) (hE2 : Blk w g2 111 (treeC n2 hs2)) :
    Calls Tryd.prog 62 #[.pointer (some ⟨g, 0, none⟩), .pointer (some ⟨g2, 0, none⟩)] w fun e w' => e = .returned (.bool (decide (n = n2 ∧ trootL n hs = trootL n2 hs2))) ∧ Below w.heap.size w w' := by
  have c1 := (hE.drew.cell 0).trans (treeC_zero n hs)
  have c2 := (hE2.drew.cell 0).trans (treeC_zero n2 hs2)
  have HR := Lib.hid (fun W (s : At w W) => mtroot_any W s.t g n hn hs hl hd (hE.below s.b hE.lt))
  have HR2 := Lib.hid (fun W (s : At w W) => mtroot_any W s.t g2 n2 hn2 hs2 hl2 hd2 (hE2.below s.b hE2.lt))
  have r1 := (trSt_ok n hs hd 17 (by omega)).1
  have r2 := (trSt_ok n2 hs2 hd2 17 (by omega)).1
  have M := Lib.hid (At.mk hT (Below.refl w.heap.size w).drew)
  clear hE hE2 hT hd hd2 hl hl2
  rw [show (trSt n hs 17).1 = trootL n hs from rfl] at r1
  rw [show (trSt n2 hs2 17).1 = trootL n2 hs2 from rfl] at r2
  by_cases hnn : n = n2
  · subst hnn
    generalize trootL n hs = x at *
    generalize trootL n hs2 = y at *
    have q := fun W => run_equalIn_dig W x y r1 r2
    have hdec : decide (n = n ∧ x = y) = decide (x = y) := by simp
    rw [hdec]
    clear hdec
    generalize decide (x = y) = bb at *
    have t0 : ((n : Int) == (n : Int)) = true := by simp
    go_enter Tryd.func62, Tryd.ntmps62
    go_wp2_with fail
    refine wp_region_pv (.still [true, false, false, false, true, false, false, false, false, false, false, false, false, false, false, false, false] (.look [false, true, true, true, false, true, true, true, true, true, true, false, true, false, false, false, false] (.act [false, false, false, false, false, false, false, false, false, false, false, true, false, false, false, false, false] (.last [false, false, false, false, false, false, false, false, false, false, false, false, false, true, false, false, false] (.look [false, false, false, false, false, false, false, false, false, false, false, false, false, false, true, true, true] .stop))))) (by kernel_rfl) (by kernel_rfl) (fun _ _ d _ _ h => by cases d <;> exact h) ?_
    generalize w.drew = V at *
    refine sv_still fun K0 hK0 => ?_
    simp only [pickM]
    go_wp2_with fail
    refine hK0.out _ ?_
    clear hK0 K0
    refine sv_look fun K0 hK0 => ?_
    simp only [pickM]
    go_wp2_with fail
    refine hK0.out _ ?_
    clear hK0 K0
    refine sv_act fun K2 hK2 => ?_
    simp only [pickM]
    go_wp2_with fail
    refine (HR.out _ M.out).mono ?_
    rintro e x1 ⟨rfl, hBelow⟩
    have M := Lib.hid (M.out.step hBelow)
    go_wp2_with fail
    have hsx1 := Lib.hid (show Sof (some V) x1 from hBelow)
    refine hK2.out _ _ hsx1.out ?_
    clear hK2 K2 hBelow
    refine sv_last fun K2 hK2 => ?_
    simp only [pickM]
    go_wp2_with fail
    refine (HR2.out _ M.out).mono ?_
    rintro e x2 ⟨rfl, hBelow⟩
    have M := Lib.hid (M.out.step hBelow)
    go_wp2_with fail
    refine hK2.out _ _ ?_
    clear hK2 K2 hBelow
    refine sv_look fun K0 hK0 => ?_
    simp only [pickM]
    go_wp2_with fail
    refine hK0.out _ ?_
    clear hK0 K0
    change Exit.then _ _ _ _ _
    go_wp2_with fail
    go_ret
    exact ⟨rfl, M.out.b⟩
  · have t0 : ((n : Int) == (n2 : Int)) = false := by rw [beq_eq_false_iff_ne]; omega
    have hdec : decide (n = n2 ∧ trootL n hs = trootL n2 hs2) = false := by rw [decide_eq_false_iff_not]; exact fun h => hnn h.1
    rw [hdec]
    clear hdec hnn
    go_enter Tryd.func62, Tryd.ntmps62
    go_wp2_with fail
    refine wp_region_pv (.still [true, false, false, false, true, false, false, false, false, false, false, false, false, false, false, false, false] (.look [false, true, true, true, false, true, true, true, true, true, true, false, true, false, false, false, false] (.act [false, false, false, false, false, false, false, false, false, false, false, true, false, false, false, false, false] (.last [false, false, false, false, false, false, false, false, false, false, false, false, false, true, false, false, false] (.look [false, false, false, false, false, false, false, false, false, false, false, false, false, false, true, true, true] .stop))))) (by kernel_rfl) (by kernel_rfl) (fun _ _ d _ _ h => by cases d <;> exact h) ?_
    generalize w.drew = V at *
    refine sv_still fun K0 hK0 => ?_
    simp only [pickM]
    go_wp2_with fail
    refine hK0.out _ ?_
    clear hK0 K0
    refine sv_look fun K0 hK0 => ?_
    simp only [pickM]
    go_wp2_with fail
    refine hK0.out _ ?_
    clear hK0 K0
    refine sv_act fun K2 hK2 => ?_
    simp only [pickM]
    go_wp2_with fail
    have hBelow : Below V.heap.size V V := Below.refl _ _
    go_wp2_with fail
    have hsV := Lib.hid (show Sof (some V) V from hBelow)
    refine hK2.out _ _ hsV.out ?_
    clear hK2 K2 hBelow
    refine sv_last fun K2 hK2 => ?_
    simp only [pickM]
    go_wp2_with fail
    have hBelow : Below V.heap.size V V := Below.refl _ _
    go_wp2_with fail
    refine hK2.out _ _ ?_
    clear hK2 K2 hBelow
    refine sv_look fun K0 hK0 => ?_
    simp only [pickM]
    go_wp2_with fail
    refine hK0.out _ ?_
    clear hK0 K0
    change Exit.then _ _ _ _ _
    go_wp2_with fail
    go_ret
    exact ⟨rfl, M.out.b⟩
end Go.Proofs.YtediocpdpghbfaaDoor
