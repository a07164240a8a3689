/- The reference's Make returns the very tables that the program's text lists. -/
import Derived.Test.YtediocpdpghbfaaDoorPrim
set_option linter.unusedSimpArgs false
set_option linter.unusedVariables false
namespace Go.Proofs.YtediocpdpghbfaaDoor
open Go Go.RowKit

/-- the tables while they are being written -/
def ttP (i : Nat) : List Nat := TT.take i ++ List.replicate (72 - i) 0
theorem ttP_length (i : Nat) (h : i ≤ 72) : (ttP i).length = 72 := by simp [ttP, TT_length]; omega
theorem ttP_full : ttP 72 = TT := by rw [ttP, List.take_of_length_le (by rw [TT_length]; omega)]; simp
theorem ttP_set (i : Nat) (h : i < 72) : (ttP i).set i (TT.getD i 0) = ttP (i + 1) := by
  obtain ⟨j, hj⟩ : ∃ j, 72 - i = j + 1 := ⟨71 - i, by omega⟩
  have hl : i < TT.length := by rw [TT_length]; exact h
  rw [ttP, ttP, hj, show 72 - (i + 1) = j by omega, List.set_append_right _ _ (by simp [TT_length]; omega), List.replicate_succ, List.take_succ_eq_append_getElem hl]
  have e : i - (TT.take i).length = 0 := by simp [TT_length]; omega
  have hb : TT[i] = TT.getD i 0 := by simp [List.getD_eq_getElem?_getD, List.getElem?_eq_getElem hl]
  rw [e, hb]
  generalize TT.getD i 0 = x
  simp
theorem TT_h (i : Nat) (h : i < 8) : TT.getD (64 + i) 0 = HH.getD i 0 := by
  simp only [TT, List.getD_eq_getElem?_getD]
  rw [List.getElem?_append_right (by simp [KK])]
  congr 2; simp [KK]
theorem PR_length : PR.length = 64 := by decide
theorem PR_lt (i : Nat) (h : i < 64) : PR.getD i 0 < 1000 := (roots3 ⟨i, h⟩).2.2.2
theorem R3_lt : ∀ i : Fin 64, R3.getD i.val 0 < 18446744073709551616 := by decide
theorem R2_lt : ∀ i : Fin 8, R2.getD i.val 0 < 18446744073709551616 := by decide
theorem size32 (l : List Nat) (h : l.length = 72) : (Tryd.prog.info? 32).map (·.size) = some (u32s l).size := by
  rw [u32s_size, h]; kernel_rfl

set_option maxRecDepth 100000 in
theorem make_any (w : World) : Calls Tryd.prog 22 #[] w fun e w' => e = .returned (.agg (u32s TT)) ∧ Below w.heap.size w w' := by
  go_enter Tryd.func22, Tryd.ntmps22
  go_wp2_with fail
  obtain ⟨W2, hW2⟩ : ∃ W2, W2 = (w.alloc (.cells (u32s (ttP 0)) 32)).alloc (.cells (u32s (ttP 0)) 32) := ⟨_, rfl⟩
  change Calls _ _ _ ((w.alloc (.cells (u32s (ttP 0)) 32)).alloc (.cells (u32s (ttP 0)) 32)) _
  rw [← hW2]
  have hs1 : w.heap.size + 1 < W2.heap.size := by rw [hW2]; simp
  have F1 : Blk W2 w.heap.size 32 (u32s (ttP 0)) := by rw [hW2]; exact (Blk.new _ _ _).alloc _
  have F2 : Blk W2 (w.heap.size + 1) 32 (u32s (ttP 0)) := by rw [hW2]; exact Blk.new1 _ _ _ _
  have F3 : Below w.heap.size w W2 := by rw [hW2]; exact ((Below.refl _ _).alloc (Nat.le_refl _) _).alloc (by simp) _
  clear hW2
  refine (primes_any W2).mono ?_; rintro e w3 ⟨gp, cap, rfl, R, B⟩
  have G1 := F1.below B (by omega)
  have G2 := F2.below B (by omega)
  have G3 := F3.trans (B.mono (by omega))
  have hs3 := B.size
  have HA := Lib.hid (And.intro R (And.intro G1 (And.intro G2 G3))); clear F1 F2 F3 R B G1 G2 G3
  go_wp2_with fail
  go_loopg [3] 64 (fun f iv wr => ∃ i : Nat, iv = .int .i64 i ∧ i + f = 64 ∧ RD wr gp PR ∧ gp ≠ w.heap.size + 1 ∧ Blk wr w.heap.size 32 (u32s (ttP 0)) ∧ Blk wr (w.heap.size + 1) 32 (u32s (ttP i)) ∧ Below w.heap.size w wr ∧ w.heap.size + 1 < wr.heap.size)
  case atStart =>
    obtain ⟨R, G1, G2, G3⟩ := HA.out
    refine ⟨0, rfl, rfl, R, ?_, G1, G2, G3, by omega⟩
    rintro rfl
    have h1 := R.2 0 (by decide)
    have h2 := G2.u32 (i := 0) (by decide)
    rw [h2] at h1
    injection h1 with h1; injection h1 with h1; cases h1
  case round =>
    obtain ⟨i, rfl, hif, R, hne, G1, G2, G3, hs⟩ := hrel
    by_cases hi : i < 64
    · have hc := R.2 i (by rw [PR_length]; exact hi)
      have hr := root3 i hi
      have hp := PR_lt i hi
      have hl3 := R3_lt ⟨i, hi⟩
      have hset := ttP_set i (by omega)
      rw [TT_k i hi] at hset
      simp only at hl3
      generalize PR.getD i 0 = p at *
      generalize R3.getD i 0 = r at *
      generalize KK.getD i 0 = kk at *
      have dx := G2.u32 (i := i) (by rw [ttP_length _ (by omega)]; omega)
      generalize (ttP i).getD i 0 = x at *
      have HB := Lib.hid (And.intro R (And.intro G1 (And.intro G2 (And.intro G3 (And.intro hif (And.intro hr (And.intro hset hne))))))); clear R G1 G2 G3 hif hr hset HA
      go_wp2_with fail
      refine (root_any p 3 r hp (.inr rfl) HB.out.2.2.2.2.2.1.1 hl3 wr).mono ?_
      rintro e w4 ⟨rfl, B4⟩
      have hs4 := B4.size
      have dx4 := (B4.cell (p := ⟨w.heap.size + 1, i, none⟩) hs).trans dx
      have fx4 := (B4.frozen (p := ⟨w.heap.size + 1, i, none⟩) hs).trans (HB.out.2.2.1.frozen i)
      rw [HB.out.2.2.2.2.2.1.2]
      have HC := Lib.hid B4; clear B4 dx
      go_wp2_with fail
      go_roundg (gk - 1)
      case measure => have := HB.out.2.2.2.2.1; omega
      case rel =>
        obtain ⟨R, G1, G2, G3, hif, hr, hset, hne⟩ := HB.out
        have B4 := HC.out
        have R4 := R.below B4 R.1
        refine ⟨i + 1, by go_num, by omega, ⟨by simpa [World.setCell] using R4.1, fun j hj => ?_⟩, hne, (G1.below B4 (by omega)).far (by simp) _, (G2.below B4 hs).set32 _ _ hset, (G3.trans (B4.mono (by omega))).setCell (by simp) _, by simp [World.setCell]; omega⟩
        exact (World.cell?_setCell_other _ _ _ _ (fun e => by injection e with e1; exact hne e1.symm)).trans (R4.2 j hj)
    · obtain rfl : i = 64 := by omega
      clear hi
      have HB := Lib.hid (And.intro R (And.intro G1 (And.intro G2 (And.intro G3 hne)))); clear R G1 G2 G3 HA hif
      go_wp2_with fail
      go_loopg [4] 8 (fun f iv wr => ∃ i : Nat, iv = .int .i64 i ∧ i + f = 8 ∧ RD wr gp PR ∧ Blk wr w.heap.size 32 (u32s (ttP 0)) ∧ Blk wr (w.heap.size + 1) 32 (u32s (ttP (64 + i))) ∧ Below w.heap.size w wr ∧ w.heap.size + 1 < wr.heap.size)
      case atStart => obtain ⟨R, G1, G2, G3, hne⟩ := HB.out; exact ⟨0, rfl, rfl, R, G1, G2, G3, hs⟩
      case round =>
        have hne := HB.out.2.2.2.2
        clear HB hs
        obtain ⟨i, rfl, hif, R, G1, G2, G3, hs⟩ := hrel
        by_cases hi : i < 8
        · have hc := R.2 i (by rw [PR_length]; omega)
          have hr := root2 i hi
          have hp := PR_lt i (by omega)
          have hl3 := R2_lt ⟨i, hi⟩
          have hset := ttP_set (64 + i) (by omega)
          rw [TT_h i hi] at hset
          simp only at hl3
          generalize PR.getD i 0 = p at *
          generalize R2.getD i 0 = r at *
          generalize HH.getD i 0 = kk at *
          have dx := G2.u32 (i := 64 + i) (by rw [ttP_length _ (by omega)]; omega)
          generalize (ttP (64 + i)).getD (64 + i) 0 = x at *
          have HB := Lib.hid (And.intro R (And.intro G1 (And.intro G2 (And.intro G3 (And.intro hif (And.intro hr (And.intro hset hne))))))); clear R G1 G2 G3 hif hr hset
          go_wp2_with fail
          refine (root_any p 2 r hp (.inl rfl) HB.out.2.2.2.2.2.1.1 hl3 wr).mono ?_
          rintro e w4 ⟨rfl, B4⟩
          have hs4 := B4.size
          have dx4 := (B4.cell (p := ⟨w.heap.size + 1, 64 + i, none⟩) hs).trans dx
          have fx4 := (B4.frozen (p := ⟨w.heap.size + 1, 64 + i, none⟩) hs).trans (HB.out.2.2.1.frozen (64 + i))
          rw [HB.out.2.2.2.2.2.1.2]
          have HC := Lib.hid B4; clear B4 dx
          go_wp2_with fail
          go_roundg (gk - 1)
          case measure => have := HB.out.2.2.2.2.1; omega
          case rel =>
            obtain ⟨R, G1, G2, G3, hif, hr, hset, hne⟩ := HB.out
            have B4 := HC.out
            have R4 := R.below B4 R.1
            refine ⟨i + 1, by go_num, by omega, ⟨by simpa [World.setCell] using R4.1, fun j hj => ?_⟩, (G1.below B4 (by omega)).far (by simp) _, (G2.below B4 hs).set32 _ _ hset, (G3.trans (B4.mono (by omega))).setCell (by simp) _, by simp [World.setCell]; omega⟩
            exact (World.cell?_setCell_other _ _ _ _ (fun e => by injection e with e1; exact hne e1.symm)).trans (R4.2 j hj)
        · obtain rfl : i = 8 := by omega
          rw [show 64 + 8 = 72 from rfl, ttP_full] at G2
          have hl := TT_length
          have HB := Lib.hid (And.intro G1 (And.intro G2 (And.intro G3 hl))); clear R G1 G2 G3 hif hl hi hne
          go_wp2_with (first
            | (refine wpList_load_row rfl 32 (.tmp 1) rfl (w.heap.size + 1) rfl 32 (u32s TT) (0, 0) _ HB.out.2.1 Tryd.underlying32 rfl (size32 _ HB.out.2.2.2) ?_)
            | (refine wpList_store_row rfl 32 (.tmp 0) (.tmp 30) rfl w.heap.size (u32s TT) rfl rfl 32 (u32s (ttP 0)) HB.out.1 (size32 _ HB.out.2.2.2) (by rw [u32s_size, u32s_size, HB.out.2.2.2]; exact ttP_length 0 (by omega)) (u32s_one _) ?_))
          obtain ⟨G1, G2, G3, hl⟩ := HB.out
          exact bodyPost_ret (v := .agg (u32s TT)) (results_cell_row rfl _ _ w.heap.size 32 _ (0, 0) _ rfl (G1.setRow _) Tryd.underlying32 rfl (size32 _ hl)) rfl ⟨rfl, below_setRow' G3 (Nat.le_refl _) _⟩
end Go.Proofs.YtediocpdpghbfaaDoor
