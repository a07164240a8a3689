/- Merkle: the law's digest (32 bytes out of any bytes), the reference's Make. -/
import Derived.Test.YtediocpdpghbfaaDoorMroo
set_option linter.unusedSimpArgs false
set_option linter.unusedVariables false
namespace Go.Proofs.YtediocpdpghbfaaDoor
open Go Go.RowKit

/-- the digest while it is being written -/
def dgP (b : List Nat) (i : Nat) : List Nat := b.take i ++ zer (32 - i)
def digL (b : List Nat) : List Nat := dgP b (min b.length 32)
theorem dgP_length (b : List Nat) (i : Nat) (h : i ≤ b.length) (h2 : i ≤ 32) : (dgP b i).length = 32 := by
  unfold dgP; rw [List.length_append, zer_length, List.length_take]; omega
theorem digL_length (b : List Nat) : (digL b).length = 32 := dgP_length b _ (Nat.min_le_left ..) (Nat.min_le_right ..)
theorem zer_bytes (n : Nat) : Bytes (zer n) := Bytes.of_mem (by intro x hx; unfold zer at hx; have := List.eq_of_mem_replicate hx; omega)
theorem dgP_bytes (b : List Nat) (i : Nat) (hB : Bytes b) : Bytes (dgP b i) := Bytes.of_mem (by
  intro x hx
  unfold dgP at hx
  rcases List.mem_append.1 hx with h | h
  · exact hB.mem x (List.mem_of_mem_take h)
  · exact (zer_bytes _).mem x h)
theorem digL_bytes (b : List Nat) (hB : Bytes b) : Bytes (digL b) := dgP_bytes b _ hB
theorem dgP_set (b : List Nat) (i : Nat) (h : i < b.length) (h2 : i < 32) : (dgP b i).set i (b.getD i 0) = dgP b (i + 1) := by
  obtain ⟨j, hj⟩ : ∃ j, 32 - i = j + 1 := ⟨31 - i, by omega⟩
  unfold dgP
  rw [hj, show 32 - (i + 1) = j by omega, List.set_append_right _ _ (by simp; omega), List.take_succ_eq_append_getElem h]
  have e : i - (b.take i).length = 0 := by simp; omega
  have hb : b[i] = b.getD i 0 := by simp [List.getD_eq_getElem?_getD, List.getElem?_eq_getElem h]
  rw [e, hb]
  unfold zer
  rw [List.replicate_succ]
  generalize b.getD i 0 = x
  simp
attribute [local go_sem ↓] ld25 st25
set_option maxRecDepth 100000 in
set_option maxHeartbeats 2000000 in
theorem digest_any (w : World) (b : List Nat) (A : Option Addr) (n cap : Nat) (hn : b.length = n) (hcap : n ≤ cap) (hB : Bytes b) (hr : RW w A cap b) :
    Calls Tryd.prog 38 #[.slice A n cap] w fun e w' => e = .returned (.agg (u8s (digL b))) ∧ Below w.heap.size w w' := by
  obtain ⟨m, hm⟩ : ∃ m, min n 32 = m := ⟨_, rfl⟩
  have hmn : m ≤ n := by omega
  have hm3 : m ≤ 32 := by omega
  have hdl : digL b = dgP b m := by unfold digL; rw [hn, hm]
  have E0 : Blk ((w.alloc (.cells (u8s (zer 32)) 25)).alloc (.cells (u8s (zer 32)) 25)) w.heap.size 25 (u8s (zer 32)) := (Blk.new _ _ _).alloc _
  have E1 : Blk ((w.alloc (.cells (u8s (zer 32)) 25)).alloc (.cells (u8s (zer 32)) 25)) (w.heap.size + 1) 25 (u8s (dgP b 0)) := Blk.new1 _ _ _ _
  have B0 : Below w.heap.size w ((w.alloc (.cells (u8s (zer 32)) 25)).alloc (.cells (u8s (zer 32)) 25)) := ((Below.refl _ _).alloc (Nat.le_refl _) _).alloc (by simp) _
  have HA := Lib.hid (And.intro E0 (And.intro E1 (And.intro B0 (And.intro hr hdl))))
  clear E0 E1 B0 hr hdl
  go_enter Tryd.func38, Tryd.ntmps38
  go_wp2_with fail
  go_loopg [4] m (fun f iv wr => ∃ i : Nat, i + f = m ∧ iv = .int .i64 i ∧ Blk wr w.heap.size 25 (u8s (zer 32)) ∧ Blk wr (w.heap.size + 1) 25 (u8s (dgP b i)) ∧ Below w.heap.size w wr)
  case atStart => exact ⟨0, by omega, rfl, HA.out.1, HA.out.2.1, HA.out.2.2.1⟩
  case round =>
    obtain ⟨i, hif, rfl, K1, K2, B0⟩ := hrel
    by_cases hi : i < m
    · have c := K2.u8 (i := i) (by rw [dgP_length _ _ (by omega) (by omega)]; omega)
      have f := K2.frozen i
      have hset := dgP_set b i (by omega) (by omega)
      have hr' := HA.out.2.2.2.1.below B0
      obtain ⟨ad, rfl⟩ : ∃ ad, A = some ad := by
        cases A with
        | none => have := (hr'.1 rfl).2; subst this; simp at hn; omega
        | some ad => exact ⟨ad, rfl⟩
      have hne : b ≠ [] := by rintro rfl; simp at hn; omega
      obtain ⟨g, off, sp⟩ := ad
      obtain ⟨h1, h2, h3⟩ := hr'.2 _ rfl hne
      simp only at h1
      subst h1
      have cb := h3 i (by omega)
      simp only at cb
      have t0 : i < n := by omega
      have t1 : i < 32 := by omega
      generalize (dgP b i).getD i 0 = y at *
      generalize b.getD i 0 = x at *
      have HE := Lib.hid (And.intro K1 (And.intro K2 (And.intro B0 (And.intro hset hif)))); clear K1 K2 B0 hset hif hr' h3 h2
      go_wp2_with fail
      go_roundg (gk - 1)
      case measure => have := HE.out.2.2.2.2; omega
      case rel =>
        obtain ⟨K1, K2, B0, hset, hif⟩ := HE.out
        exact ⟨i + 1, by omega, by go_num, K1.far (by simp) _, K2.set8 _ _ hset, B0.setCell (by simp) _⟩
    · obtain rfl : i = m := by omega
      have hl := dgP_length b i (by omega) hm3
      have hdl := HA.out.2.2.2.2
      rw [← hdl] at hl K2
      clear hdl
      clear hi
      have l1 := load25_run K2 hl
      have s1 := store25_run K1 rfl hl
      have HE := Lib.hid (And.intro K1 (And.intro K2 B0)); clear K1 K2 B0
      have ways : ¬ i < n ∨ (i < n ∧ ¬ i < 32) := by omega
      rcases ways with t0 | ⟨t0, t1⟩
      · go_wp2_with fail
        (apply dig_ret (w := w) (p := 2) (d := digL b) <;> first | exact HE.out.1 | exact HE.out.2.2 | exact hl | rfl)
      · go_wp2_with fail
        (apply dig_ret (w := w) (p := 2) (d := digL b) <;> first | exact HE.out.1 | exact HE.out.2.2 | exact hl | rfl)
set_option maxRecDepth 100000 in
theorem rmake_any (w : World) : Calls Tryd.prog 37 #[] w fun e w' => e = .returned (.agg (u32s TT)) ∧ Below w.heap.size w w' := by
  go_enter Tryd.func37, Tryd.ntmps37
  go_wp2_with fail
  obtain ⟨W2, hW2⟩ : ∃ W2, W2 = w.alloc (.cells (u32s (ttP 0)) 32) := ⟨_, rfl⟩
  change Calls _ _ _ (w.alloc (.cells (u32s (ttP 0)) 32)) _
  rw [← hW2]
  have F1 : Blk W2 w.heap.size 32 (u32s (ttP 0)) := by rw [hW2]; exact Blk.new _ _ _
  have F3 : Below w.heap.size w W2 := by rw [hW2]; exact (Below.refl _ _).alloc (Nat.le_refl _) _
  clear hW2
  refine (make_any W2).mono ?_
  rintro e w3 ⟨rfl, B3⟩
  have H3 := Lib.hid (And.intro (F1.below B3 F1.lt) (F3.trans (B3.mono F3.size)))
  clear F1 F3 B3
  go_wp2_with (refine wpList_store_row rfl 32 (.tmp 0) (.tmp 1) rfl w.heap.size (u32s TT) rfl rfl 32 (u32s (ttP 0)) H3.out.1 (size32 _ TT_length) (by rw [u32s_size, u32s_size, TT_length, ttP_length _ (by omega)]) (u32s_one _) ?_)
  exact bodyPost_ret (v := .agg (u32s TT)) (results_cell_row rfl _ _ w.heap.size 32 _ (0, 0) _ rfl (H3.out.1.setRow _) Tryd.underlying32 rfl (size32 _ TT_length)) rfl ⟨rfl, below_setRow' H3.out.2 (Nat.le_refl _) _⟩
end Go.Proofs.YtediocpdpghbfaaDoor
