/- The reference's Parse -/
import Derived.Test.YtediocpdpghbfaaDoorRtex
set_option linter.unusedSimpArgs false
set_option linter.unusedVariables false
namespace Go.Proofs.YtediocpdpghbfaaDoor
open Go Go.RowKit

/-- the digest while the reference's Parse writes it -/
def rP (l : List Nat) (i : Nat) : List Nat := (List.range 32).map fun j => if 2 * j + 1 < i then nib (l.getD (2 * j) 0) * 16 + nib (l.getD (2 * j + 1) 0) else if 2 * j < i then nib (l.getD (2 * j) 0) else 0
theorem rP_length (l : List Nat) (i : Nat) : (rP l i).length = 32 := by simp [rP]
theorem rP_zero (l : List Nat) : rP l 0 = zer 32 := by
  refine List.ext_getElem (by simp [rP, zer]) fun j h1 h2 => ?_
  simp only [rP, zer, List.getElem_map, List.getElem_replicate]
  simp
theorem rP_full (l : List Nat) : rP l 64 = unhex l := by
  refine List.ext_getElem (by simp [rP, unhex]) fun j h1 h2 => ?_
  have hj : j < 32 := by simpa [rP] using h1
  simp only [rP, unhex, List.getElem_map, List.getElem_range]
  rw [if_pos (by omega)]
theorem rP_at (l : List Nat) (i : Nat) (h : i < 64) : (rP l i).getD (i / 2) 0 = if i % 2 = 1 then nib (l.getD (i - 1) 0) else 0 := by
  have hj : i / 2 < 32 := by omega
  simp only [rP, List.getD_eq_getElem?_getD, List.getElem?_map, List.getElem?_range hj, Option.map_some, Option.getD_some]
  rw [if_neg (by omega)]
  by_cases hp : i % 2 = 1
  · rw [if_pos (by omega), if_pos hp, show 2 * (i / 2) = i - 1 by omega]
  · rw [if_neg (by omega), if_neg hp]
theorem rP_lt (l : List Nat) (i : Nat) (h : i < 64) : (rP l i).getD (i / 2) 0 < 16 := by
  rw [rP_at l i h]
  split
  · exact nib_lt _
  · omega
theorem rP_set (l : List Nat) (i : Nat) (h : i < 64) : (rP l i).set (i / 2) ((rP l i).getD (i / 2) 0 * 16 + nib (l.getD i 0)) = rP l (i + 1) := by
  rw [rP_at l i h]
  refine List.ext_getElem (by simp [rP]) fun j h1 h2 => ?_
  have hj : j < 32 := by simpa [rP] using h2
  rw [List.getElem_set]
  simp only [rP, List.getElem_map, List.getElem_range]
  by_cases e : i / 2 = j
  · rw [if_pos e]
    by_cases hp : i % 2 = 1
    · rw [if_pos hp, if_pos (by omega), show 2 * j = i - 1 by omega, show i - 1 + 1 = i by omega]
    · rw [if_neg hp, if_neg (by omega), if_pos (by omega), show 2 * j = i by omega]; simp
  · rw [if_neg e]
    by_cases h3 : 2 * j + 1 < i
    · rw [if_pos h3, if_pos (by omega)]
    · by_cases h4 : 2 * j < i
      · exact absurd (by omega) e
      · have h5 : ¬ 2 * j + 1 < i + 1 := by omega
        have h6 : ¬ 2 * j < i + 1 := by omega
        simp only [h3, h4, h5, h6, if_false]
theorem built24 : (Tryd.prog.built 24 []).getD #[] = u8s (zer 32) := by kernel_rfl
theorem nib_pairs (l : List Nat) : ((List.range 32).all fun i => isNib (l.getD (2 * i) 0) && isNib (l.getD (2 * i + 1) 0)) = true ↔ ∀ i, i < 64 → isNib (l.getD i 0) = true := by
  rw [List.all_eq_true]
  constructor
  · intro h i hi
    have := h (i / 2) (List.mem_range.2 (by omega))
    rw [Bool.and_eq_true] at this
    rcases Nat.mod_two_eq_zero_or_one i with e | e
    · rw [show 2 * (i / 2) = i by omega] at this; exact this.1
    · rw [show 2 * (i / 2) + 1 = i by omega] at this; exact this.2
  · intro h i hi
    have := List.mem_range.1 hi
    rw [h (2 * i) (by omega), h (2 * i + 1) (by omega)]; rfl
attribute [local go_sem ↓] st24 ld24
set_option maxRecDepth 100000 in
set_option maxHeartbeats 1000000 in
theorem rparse_any (s : ByteArray) (hs : s.size ≤ 9223372036854775807) (w : World) :
    Calls Tryd.prog 35 #[.string s] w fun e w' => e = .returned (.tuple #[.agg (u8s (parseL (bl s)).1), .int .i64 ((parseL (bl s)).2 : Nat)]) ∧ Below w.heap.size w w' := by
  have hbl := bl_length s
  by_cases h1 : s.size < 64
  · have hp : parseL (bl s) = (zer 32, 4) := by rw [parseL, if_pos (by omega)]
    rw [hp]
    have HP := Lib.hid (And.intro hp hbl); clear hp hbl
    go_enter Tryd.func35, Tryd.ntmps35
    go_wp2_with (first
      | (refine wpList_load_row rfl 24 (.tmp 4) rfl (w.heap.size + 1) rfl 24 (u8s (zer 32)) (0, 0) _ (Blk.new1 _ _ _ _) Tryd.underlying24 rfl (size24 _ rfl) ?_)
      | (refine wpList_store_row rfl 24 (.tmp 2) (.tmp 11) rfl w.heap.size (u8s (zer 32)) rfl rfl 24 (u8s (zer 32)) ((Blk.new _ _ _).alloc _) (size24 _ rfl) rfl (u8s_one _) ?_))
    exact bodyPost_ret (v := .tuple #[.agg (u8s (zer 32)), .int .i64 4]) (results_cell_row2 (p := 2) (u := 3) rfl _ _ w.heap.size 24 _ (0, 0) _ rfl (((Blk.new _ _ _).alloc _).setRow _) Tryd.underlying24 rfl (size24 _ rfl)) rfl
      ⟨rfl, below_setRow' (((Below.refl _ _).alloc (Nat.le_refl _) _).alloc (by simp) _) (Nat.le_refl _) _⟩
  · by_cases h2 : 64 < s.size
    · have hp : parseL (bl s) = (zer 32, 5) := by rw [parseL, if_neg (by omega), if_pos (by omega)]
      rw [hp]
      have HP := Lib.hid (And.intro hp hbl); clear hp hbl
      go_enter Tryd.func35, Tryd.ntmps35
      go_wp2_with (first
        | (refine wpList_load_row rfl 24 (.tmp 4) rfl (w.heap.size + 1) rfl 24 (u8s (zer 32)) (0, 0) _ (Blk.new1 _ _ _ _) Tryd.underlying24 rfl (size24 _ rfl) ?_)
        | (refine wpList_store_row rfl 24 (.tmp 2) (.tmp 15) rfl w.heap.size (u8s (zer 32)) rfl rfl 24 (u8s (zer 32)) ((Blk.new _ _ _).alloc _) (size24 _ rfl) rfl (u8s_one _) ?_))
      exact bodyPost_ret (v := .tuple #[.agg (u8s (zer 32)), .int .i64 5]) (results_cell_row2 (p := 2) (u := 3) rfl _ _ w.heap.size 24 _ (0, 0) _ rfl (((Blk.new _ _ _).alloc _).setRow _) Tryd.underlying24 rfl (size24 _ rfl)) rfl
        ⟨rfl, below_setRow' (((Below.refl _ _).alloc (Nat.le_refl _) _).alloc (by simp) _) (Nat.le_refl _) _⟩
    · have hsz : s.size = 64 := by omega
      have hp : parseL (bl s) = if (List.range 32).all (fun i => isNib ((bl s).getD (2 * i) 0) && isNib ((bl s).getD (2 * i + 1) 0)) then (unhex (bl s), 0) else (zer 32, 3) := by
        rw [parseL, if_neg (by omega), if_neg (by omega)]
      have HP := Lib.hid (And.intro hp (And.intro hbl hsz)); clear hp hbl hsz
      go_enter Tryd.func35, Tryd.ntmps35
      go_wp2_with fail
      go_loopg [5] 64 (fun k i wr => ∃ t : Nat, t + k = 64 ∧ i = .int .i64 t ∧ (∀ j, j < t → isNib ((bl s).getD j 0) = true) ∧
        Blk wr w.heap.size 24 (u8s (zer 32)) ∧ Blk wr (w.heap.size + 1) 24 (u8s (rP (bl s) t)) ∧ Below w.heap.size w wr)
      case atStart => exact ⟨0, rfl, rfl, fun j hj => by omega, (Blk.new _ _ _).alloc _, by rw [rP_zero]; exact Blk.new1 _ _ _ _, ((Below.refl _ _).alloc (Nat.le_refl _) _).alloc (by simp) _⟩
      case round =>
        obtain ⟨t, htk, rfl, hall, K1, K2, B0⟩ := hrel
        by_cases ht : t < 64
        · have hsz := HP.out.2.2
          have x1 := str_index s t (by omega)
          have hset := rP_set (bl s) t ht
          have l1 := bl_bytes s t
          have hy := rP_lt (bl s) t ht
          have c := K2.u8 (i := t / 2) (by rw [rP_length]; omega)
          have f := K2.frozen (t / 2)
          generalize hc1 : (bl s).getD t 0 = c1 at *
          generalize (rP (bl s) t).getD (t / 2) 0 = y at *
          have ways : (48 ≤ c1 ∧ c1 ≤ 57) ∨ (57 < c1 ∧ 97 ≤ c1 ∧ c1 ≤ 102) ∨ isNib c1 = false := by
            unfold isNib
            by_cases a : (48 ≤ c1 ∧ c1 ≤ 57) ∨ (97 ≤ c1 ∧ c1 ≤ 102)
            · omega
            · right; right; simpa using a
          have HE := Lib.hid (And.intro hall (And.intro K1 (And.intro K2 (And.intro B0 (And.intro hset (And.intro hc1 htk)))))); clear hall K1 K2 B0 hset hc1 hsz htk
          rcases ways with ⟨a1, a2⟩ | ⟨a0, a1, a2⟩ | a3
          · have hn : nib c1 = c1 - 48 := by unfold nib; rw [if_pos ⟨a1, a2⟩]
            have hN : isNib c1 = true := by unfold isNib; simp; omega
            have HN := Lib.hid (And.intro hn hN); clear hn hN
            go_wp2_with fail
            go_roundg (gk - 1)
            case measure => have := HE.out.2.2.2.2.2.2; omega
            case rel =>
              obtain ⟨hall, K1, K2, B0, hset, hc1, htk⟩ := HE.out
              refine ⟨t + 1, by omega, by go_num, fun j hj => ?_, K1.far (by simp) _, ?_, B0.setCell (by simp) _⟩
              · rcases Nat.lt_or_ge j t with h | h
                · exact hall j h
                · obtain rfl : j = t := by omega
                  rw [hc1]; exact HN.out.2
              · rw [HN.out.1] at hset
                have ez : (y : Int) * 16 + ((c1 : Int) - 48) = ((y * 16 + (c1 - 48) : Nat) : Int) := by omega
                rw [ez]; exact K2.set8 _ _ hset
          · have hn : nib c1 = c1 - 87 := by unfold nib; rw [if_neg (by omega), if_pos ⟨a1, a2⟩]
            have hN : isNib c1 = true := by unfold isNib; simp; omega
            have HN := Lib.hid (And.intro hn hN); clear hn hN
            go_wp2_with fail
            go_roundg (gk - 1)
            case measure => have := HE.out.2.2.2.2.2.2; omega
            case rel =>
              obtain ⟨hall, K1, K2, B0, hset, hc1, htk⟩ := HE.out
              refine ⟨t + 1, by omega, by go_num, fun j hj => ?_, K1.far (by simp) _, ?_, B0.setCell (by simp) _⟩
              · rcases Nat.lt_or_ge j t with h | h
                · exact hall j h
                · obtain rfl : j = t := by omega
                  rw [hc1]; exact HN.out.2
              · rw [HN.out.1] at hset
                have ez : (y : Int) * 16 + ((c1 : Int) - 97 + 10) = ((y * 16 + (c1 - 87) : Nat) : Int) := by omega
                rw [ez]; exact K2.set8 _ _ hset
          · have cs : (c1 < 48) ∨ (57 < c1 ∧ c1 < 97) ∨ (102 < c1) := by
              unfold isNib at a3
              simp at a3
              omega
            have HN := Lib.hid a3; clear a3
            have hend : (parseL (bl s)).1 = zer 32 ∧ (parseL (bl s)).2 = 3 := by
              have hno : ((List.range 32).all fun i => isNib ((bl s).getD (2 * i) 0) && isNib ((bl s).getD (2 * i + 1) 0)) = false := by
                rw [Bool.eq_false_iff]
                intro h
                have := (nib_pairs (bl s)).1 h t ht
                rw [HE.out.2.2.2.2.2.1, HN.out] at this
                cases this
              rw [HP.out.1, hno]; exact ⟨rfl, rfl⟩
            have HEND := Lib.hid hend; clear hend
            rcases cs with b1 | ⟨b1, b2⟩ | b1
            all_goals
              go_wp2_with (first
                | (refine wpList_build rfl 24 _ rfl (by kernel_rfl) ?_)
                | (refine wpList_store_row rfl 24 (.tmp 2) (.tmp 40) rfl w.heap.size (u8s (zer 32)) rfl ?hy 24 (u8s (zer 32)) HE.out.2.1 (size24 _ rfl) rfl (u8s_one _) ?_))
              case hy => first | exact built24 | exact congrArg Value.agg built24
              obtain ⟨hall, K1, K2, B0, hset, hc1, htk⟩ := HE.out
              refine bodyPost_ret (v := .tuple #[.agg (u8s (zer 32)), .int .i64 3]) (results_cell_row2 (p := 2) (u := 3) rfl _ _ w.heap.size 24 _ (0, 0) _ rfl (K1.setRow _) Tryd.underlying24 rfl (size24 _ rfl)) rfl
                ⟨?_, below_setRow' B0 (Nat.le_refl _) _⟩
              rw [HEND.out.1, HEND.out.2]; rfl
        · obtain rfl : t = 64 := by omega
          rw [rP_full] at K2
          have hl32 := unhex_length (bl s)
          have HL := Lib.hid hl32; clear hl32
          have HE := Lib.hid (And.intro hall (And.intro K1 (And.intro K2 B0))); clear hall K1 K2 B0 htk ht
          go_wp2_with (first
            | (refine wpList_load_row rfl 24 (.tmp 4) rfl (w.heap.size + 1) rfl 24 (u8s (unhex (bl s))) (0, 0) _ HE.out.2.2.1 Tryd.underlying24 rfl (size24 _ HL.out) ?_)
            | (refine wpList_store_row rfl 24 (.tmp 2) (.tmp 51) rfl w.heap.size (u8s (unhex (bl s))) rfl rfl 24 (u8s (zer 32)) HE.out.2.1 (size24 _ HL.out) (by rw [u8s_size, u8s_size, HL.out]; rfl) (u8s_one _) ?_))
          obtain ⟨hall, K1, K2, B0⟩ := HE.out
          refine bodyPost_ret (v := .tuple #[.agg (u8s (unhex (bl s))), .int .i64 0]) (results_cell_row2 (p := 2) (u := 3) rfl _ _ w.heap.size 24 _ (0, 0) _ rfl (K1.setRow _) Tryd.underlying24 rfl (size24 _ HL.out)) rfl
              ⟨?_, below_setRow' B0 (Nat.le_refl _) _⟩
          have hyes : ((List.range 32).all fun i => isNib ((bl s).getD (2 * i) 0) && isNib ((bl s).getD (2 * i + 1) 0)) = true := (nib_pairs (bl s)).2 hall
          rw [HP.out.1, hyes]; rfl
end Go.Proofs.YtediocpdpghbfaaDoor
