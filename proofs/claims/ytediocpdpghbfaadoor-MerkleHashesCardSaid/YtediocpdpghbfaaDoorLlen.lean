/- The law of Sum's lengths: the walk. -/
import Derived.Test.YtediocpdpghbfaaDoorLsum
set_option linter.unusedSimpArgs false
set_option linter.unusedVariables false
namespace Go.Proofs.YtediocpdpghbfaaDoor
open Go Go.RowKit

/-- the bytes a, a + 1, .. while they are being written -/
def fillP (a n t : Nat) : List Nat := (List.range t).map (fun i => (a + i) % 256) ++ List.replicate (n - t) 0
theorem fillP_length (a n t : Nat) (h : t ≤ n) : (fillP a n t).length = n := by simp [fillP]; omega
theorem fillP_set (a n t : Nat) (h : t < n) : (fillP a n t).set t ((a + t) % 256) = fillP a n (t + 1) := by
  obtain ⟨j, hj⟩ : ∃ j, n - t = j + 1 := ⟨n - t - 1, by omega⟩
  rw [fillP, fillP, hj, show n - (t + 1) = j by omega, List.set_append_right _ _ (by simp), List.replicate_succ, List.range_succ, List.map_append]
  simp
theorem fillP_zero (a n : Nat) : fillP a n 0 = List.replicate n 0 := by simp [fillP]
theorem fillP_bytes (a n t : Nat) : Bytes (fillP a n t) := Bytes.of_mem fun x hx => by
  simp only [fillP, List.mem_append, List.mem_map, List.mem_replicate] at hx
  rcases hx with ⟨i, _, rfl⟩ | ⟨_, rfl⟩ <;> omega
theorem Blk.rb {w : World} {g' : Nat} {l : List Nat} {t : TypeId} (h : Blk w g' t (u8s l)) {g : Nat} (hg : w.heap.size ≤ g) : RB w g (some ⟨g', 0, none⟩) l :=
  fun _ => ⟨g', 0, rfl, by have := h.lt; omega, h.lt, fun j hj => by rw [Nat.zero_add]; exact h.u8 hj⟩
theorem Blk.rw {w : World} {g' c : Nat} {l : List Nat} {t : TypeId} (h : Blk w g' t (u8s l)) : RW w (some ⟨g', 0, none⟩) c l :=
  ⟨(fun e => by cases e), (fun ad e _ => by injection e with e; subst e; exact ⟨rfl, h.lt, fun j hj => by rw [Nat.zero_add]; exact h.u8 hj⟩)⟩
attribute [local go_sem ↓] st25 ld25
set_option maxRecDepth 100000 in
set_option maxHeartbeats 4000000 in
theorem law_len (w : World) (hT : Tabs w) (a n : Nat) (ha : a < 256) (hn : n < 65536) :
    Calls Tryd.prog 4 #[.int .u8 a, .int .u16 n] w fun e w' => e = .returned (.bool true) ∧ Below w.heap.size w w' := by
  obtain ⟨i0, hi0, hz0, hz1, hz2⟩ := info_parts info5
  have hmk : ∀ (w : World) (m : Nat), m < 401 → (Instr.makeSlice 22 (.int .i64 m) (.int .i64 m)).run Tryd.prog w = .ok (.slice (some ⟨w.heap.size, 0, none⟩) m m) (w.alloc (.cells (u8s (fillP a m 0)) 5)) := fun w m hm => by
    have := run_make_rowN (P := Tryd.prog) 22 5 i0 _ Tryd.underlying22 hi0 hz0 .i64 .i64 m m (by omega) (by rw [hz2]; omega) (by omega) w
    rwa [hz1, Nat.mul_one, madeCells_u8, ← fillP_zero a m] at this
  obtain ⟨m, hm⟩ : ∃ m, n % 401 = m := ⟨_, rfl⟩
  have hm4 : m < 401 := by omega
  have hmI : (n : Int) % 401 = (m : Int) := by omega
  have hmk' := hmk w m hm4
  have HA := Lib.hid hT; clear hT hmk hm hi0 hz0 hz1 hz2
  go_enter Tryd.func4, Tryd.ntmps4
  go_wp2_with fail
  have hb0 := (Below.refl w.heap.size w).alloc (Nat.le_refl _) (.cells (u8s (fillP a m 0)) 5)
  have hk0 := Blk.new w 5 (u8s (fillP a m 0))
  generalize hg : w.heap.size = g at *
  have HG := Lib.hid (And.intro hg (And.intro hb0 hk0)); clear hg hb0 hk0
  go_loopg [6] m (fun f iv wr => ∃ i : Nat, i + f = m ∧ iv = .int .i64 i ∧ Blk wr g 5 (u8s (fillP a m i)) ∧ Below g w wr)
  case atStart => exact ⟨0, by omega, rfl, HG.out.2.2, HG.out.2.1⟩
  case round =>
    obtain ⟨i, hif, rfl, E1, B0⟩ := hrel
    by_cases hi : i < m
    · have c := E1.u8 (i := i) (by rw [fillP_length _ _ _ (by omega)]; exact hi)
      have f := E1.frozen i
      have hset := fillP_set a m i hi
      generalize (fillP a m i).getD i 0 = y at *
      have HE := Lib.hid (And.intro E1 (And.intro B0 (And.intro hset hif))); clear E1 B0 hset hif
      go_wp2_with fail
      go_roundg (gk - 1)
      case measure => have := HE.out.2.2.2; omega
      case rel =>
        obtain ⟨E1, B0, hset, hif⟩ := HE.out
        refine ⟨i + 1, by omega, by go_num, ?_, B0.setCell (by simp) _⟩
        exact E1.set8 _ _ hset
    · obtain rfl : i = m := by omega
      have hbl := fillP_length a i i (Nat.le_refl _)
      have hbb := fillP_bytes a i i
      generalize fillP a i i = b at *
      have hgw := HG.out.1
      have hT1 := HA.out.below B0 (hgw ▸ HA.out.two)
      have hB0 : Below w.heap.size w wr := hgw ▸ B0
      have HE := Lib.hid (And.intro E1 (And.intro B0 (And.intro hbb (And.intro hT1 (And.intro hbl hB0))))); clear E1 B0 hbb hT1 hmk' hif hB0 hgw
      have hs := sum_any wr HE.out.2.2.2.1 b (some ⟨g, 0, none⟩) b.length (Nat.le_refl _) HE.out.2.2.1 (HE.out.1.rb (Nat.le_refl _)) (by omega)
      rw [hbl] at hs
      have HS := Lib.hid hs; clear hs
      have HR := Lib.hid (fun W (h : RW W (some ⟨g, 0, none⟩) b.length b) => rsum_any W b (some ⟨g, 0, none⟩) b.length (Nat.le_refl _) HE.out.2.2.1 h (by omega))
      rw [hbl] at HR
      have hsl := sha_length b
      generalize sha b = d at *
      have eqd := fun W => run_equalIn_dig W d d hsl hsl
      clear hbl HG
      go_wp2_with fail
      refine HS.out.mono ?_
      rintro e w1 ⟨rfl, B1⟩
      have H1 := Lib.hid B1; clear B1
      go_wp2_with fail
      refine (make_any w1).mono ?_
      rintro e w2 ⟨rfl, B2⟩
      have H2 := Lib.hid B2; clear B2
      go_wp2_with fail
      have E3 := (HE.out.1.below H1.out HE.out.1.lt).below H2.out (Nat.lt_of_lt_of_le HE.out.1.lt H1.out.size)
      refine (HR.out w2 E3.rw).mono ?_
      rintro e w3 ⟨rfl, B3⟩
      have H3 := Lib.hid (And.intro B3 E3); clear B3 E3
      go_wp2_with fail
      have T3 := ((HE.out.2.2.2.1.below H1.out HE.out.2.2.2.1.two).below H2.out (Nat.le_trans HE.out.2.2.2.1.two H1.out.size)).below H3.out.1 (Nat.le_trans HE.out.2.2.2.1.two (Nat.le_trans H1.out.size H2.out.size))
      refine (known_any w3 T3).mono ?_
      rintro e w4 ⟨rfl, B4⟩
      have H4 := Lib.hid B4; clear B4 T3
      go_wp2_with fail
      have l0 := HE.out.2.2.2.2.2.size
      have l1 := H1.out.size
      have l2 := H2.out.size
      have l3 := H3.out.1.size
      exact bodyPost_ret (v := .bool true) (by kernel_rfl) rfl ⟨rfl, HE.out.2.2.2.2.2.trans ((H1.out.mono l0).trans ((H2.out.mono (Nat.le_trans l0 l1)).trans ((H3.out.1.mono (Nat.le_trans l0 (Nat.le_trans l1 l2))).trans (H4.out.mono (Nat.le_trans l0 (Nat.le_trans l1 (Nat.le_trans l2 l3)))))))⟩
end Go.Proofs.YtediocpdpghbfaaDoor
