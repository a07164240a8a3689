/- Hexadecimal texts and digests: each undoes the other. -/
import Derived.Test.YtediocpdpghbfaaDoorText
set_option linter.unusedSimpArgs false
set_option linter.unusedVariables false
namespace Go.Proofs.YtediocpdpghbfaaDoor
open Go Go.RowKit

theorem bl_strOf (l : List Nat) (h : Bytes l) : bl (strOf l) = l := by
  rw [bl, strOf]
  simp only [List.map_map]
  refine List.ext_getElem (by simp) fun i h1 h2 => ?_
  have := h.mem _ (List.getElem_mem h2)
  simp only [List.getElem_map, Function.comp_apply]
  simp; omega
theorem strOf_bl (s : ByteArray) : strOf (bl s) = s := by
  apply ByteArray.ext
  rw [bl, strOf]
  simp only [List.map_map]
  apply Array.ext'
  have e : (UInt8.ofNat ∘ UInt8.toNat) = id := by funext x; simp
  simp [e]
theorem nib_hexd : ∀ n : Fin 16, nib (hexd n.val) = n.val ∧ isNib (hexd n.val) = true := by decide
theorem hexd_nib (c : Nat) (h : isNib c = true) : hexd (nib c) = c := by
  unfold isNib at h
  unfold nib hexd
  simp at h
  rcases h with h | h
  · rw [if_pos h, if_pos (by omega)]; omega
  · have h0 : ¬ (48 ≤ c ∧ c ≤ 57) := by omega
    simp only [h0, h, and_self, if_true, if_false]
    rw [if_neg (by omega)]; omega
theorem hexL_at : ∀ (d : List Nat) (i : Nat), i < d.length → (hexL d).getD (2 * i) 0 = hexd (d.getD i 0 / 16) ∧ (hexL d).getD (2 * i + 1) 0 = hexd (d.getD i 0 % 16)
  | [], i, h => by simp at h
  | a :: d, 0, h => by simp [hexL]
  | a :: d, i + 1, h => by
    have ih := hexL_at d i (by simpa using h)
    have e : hexL (a :: d) = hexd (a / 16) :: hexd (a % 16) :: hexL d := by simp [hexL]
    rw [e, show 2 * (i + 1) = 2 * i + 1 + 1 by omega]
    simpa using ih
theorem unhex_hexL (d : List Nat) (hd : d.length = 32) (hB : Bytes d) : unhex (hexL d) = d := by
  refine List.ext_getElem (by rw [unhex_length, hd]) fun i h1 h2 => ?_
  simp only [unhex, List.getElem_map, List.getElem_range]
  obtain ⟨a, b⟩ := hexL_at d i h2
  have hb := hB i
  have n1 := (nib_hexd ⟨d.getD i 0 / 16, by omega⟩).1
  have n2 := (nib_hexd ⟨d.getD i 0 % 16, by omega⟩).1
  simp only at n1 n2
  rw [a, b, n1, n2]
  simp only [List.getD_eq_getElem?_getD, List.getElem?_eq_getElem h2, Option.getD_some]
  omega
theorem parse_hex (d : List Nat) (hd : d.length = 32) (hB : Bytes d) : parseL (hexL d) = (d, 0) := by
  have hl : (hexL d).length = 64 := by rw [hexL_length, hd]
  have hall : ((List.range 32).all fun i => isNib ((hexL d).getD (2 * i) 0) && isNib ((hexL d).getD (2 * i + 1) 0)) = true := by
    rw [List.all_eq_true]
    intro i hi
    have hi' := List.mem_range.1 hi
    obtain ⟨a, b⟩ := hexL_at d i (by omega)
    have hb := hB i
    rw [a, b, (nib_hexd ⟨d.getD i 0 / 16, by omega⟩).2, (nib_hexd ⟨d.getD i 0 % 16, by omega⟩).2]; rfl
  rw [parseL, if_neg (by omega), if_neg (by omega), if_pos hall, unhex_hexL d hd hB]
theorem pairs_all : ∀ (n : Nat) (l : List Nat), l.length = 2 * n → (List.range n).flatMap (fun i => [l.getD (2 * i) 0, l.getD (2 * i + 1) 0]) = l
  | 0, l, h => by
    obtain rfl : l = [] := List.eq_nil_of_length_eq_zero (by omega)
    rfl
  | n + 1, l, h => by
    match l, h with
    | a :: b :: l, h =>
      have ih := pairs_all n l (by simp at h; omega)
      rw [List.range_succ_eq_map, List.flatMap_cons, List.flatMap_map]
      have e : (fun i => [(a :: b :: l).getD (2 * (i + 1)) 0, (a :: b :: l).getD (2 * (i + 1) + 1) 0]) = fun i => [l.getD (2 * i) 0, l.getD (2 * i + 1) 0] := by
        funext i
        rw [show 2 * (i + 1) = 2 * i + 1 + 1 by omega]
        simp
      rw [e, ih]; simp
    | [a], h => simp at h; omega
    | [], h => simp at h
theorem hex_parse (l : List Nat) (h : (parseL l).2 = 0) : hexL (parseL l).1 = l := by
  unfold parseL at h ⊢
  by_cases h1 : l.length < 64
  · rw [if_pos h1] at h; cases h
  · by_cases h2 : 64 < l.length
    · rw [if_neg h1, if_pos h2] at h; cases h
    · rw [if_neg h1, if_neg h2] at h ⊢
      split at h
      · rename_i hall
        rw [if_pos hall]
        simp only [unhex, hexL, List.flatMap_map]
        have e : (List.range 32).flatMap (fun i => [hexd ((nib (l.getD (2 * i) 0) * 16 + nib (l.getD (2 * i + 1) 0)) / 16), hexd ((nib (l.getD (2 * i) 0) * 16 + nib (l.getD (2 * i + 1) 0)) % 16)]) =
            (List.range 32).flatMap fun i => [l.getD (2 * i) 0, l.getD (2 * i + 1) 0] := by
          rw [List.flatMap_def, List.flatMap_def]
          congr 1
          refine List.map_congr_left fun i hi => ?_
          have := List.all_eq_true.1 hall i hi
          rw [Bool.and_eq_true] at this
          have a := nib_lt (l.getD (2 * i) 0)
          have b := nib_lt (l.getD (2 * i + 1) 0)
          rw [show (nib (l.getD (2 * i) 0) * 16 + nib (l.getD (2 * i + 1) 0)) / 16 = nib (l.getD (2 * i) 0) by omega, show (nib (l.getD (2 * i) 0) * 16 + nib (l.getD (2 * i + 1) 0)) % 16 = nib (l.getD (2 * i + 1) 0) by omega,
            hexd_nib _ this.1, hexd_nib _ this.2]
        rw [e]
        exact pairs_all 32 l (by omega)
      · cases h
theorem parseL_length (l : List Nat) : (parseL l).1.length = 32 := by
  unfold parseL
  repeat' split
  all_goals first | exact unhex_length _ | rfl
theorem parseL_bytes (l : List Nat) : Bytes (parseL l).1 := by
  unfold parseL
  repeat' split
  all_goals
    refine Bytes.of_mem fun x hx => ?_
    first
      | (simp only [zer, List.mem_replicate] at hx; omega)
      | (simp only [unhex, List.mem_map] at hx
         obtain ⟨i, _, rfl⟩ := hx
         have a := nib_lt (l.getD (2 * i) 0)
         have b := nib_lt (l.getD (2 * i + 1) 0)
         omega)
end Go.Proofs.YtediocpdpghbfaaDoor
