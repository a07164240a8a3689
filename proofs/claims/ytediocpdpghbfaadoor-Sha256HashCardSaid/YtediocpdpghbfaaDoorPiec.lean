/- An argument that is a slice of slices of bytes. -/
import Derived.Test.YtediocpdpghbfaaDoorFram
import Derived.Test.YtediocpdpghbfaaDoorLhas
import Derived.Deep.Matrix
set_option linter.unusedSimpArgs false
set_option linter.unusedVariables false
namespace Go.Proofs.YtediocpdpghbfaaDoor
open Go Go.ChangeShapes Go.WideShapes Go.ChangeAt Go.RowKit Go.Deep

theorem cells22 : Tryd.prog.cellsOf 22 = 1 := by kernel_rfl
theorem bytes5 : Tryd.prog.bytesOf 5 = 1 := by kernel_rfl
theorem weights_mem {H : Type} (e : TypeId) : ∀ (l : List (DataW H)) (d : DataW H), d ∈ l → ∀ x ∈ d.weights Tryd.prog e, x ∈ DataW.weightsAll Tryd.prog e l
  | [], d, h, _, _ => by simp at h
  | y :: l, d, h, x, hx => by
    unfold DataW.weightsAll
    rcases List.mem_cons.1 h with rfl | h
    · exact List.mem_append_left _ hx
    · exact List.mem_append_right _ (weights_mem e l d h x hx)
set_option maxRecDepth 100000 in
theorem pieces_arg {H : Type} {enc : TypeId × Value → H} {W : World} {base : Nat} {v : Value} {d : DataW H} {p : List MemPlace}
    (hv : Value.okWide Tryd.prog W .any base 41 v) (h : DataW.Trod enc Tryd.prog W 0 (fun _ => true) true 41 v d p) (hw : (d.weights Tryd.prog 41).all (· ≤ reachBytes) = true) :
    ∃ (A : Option Addr) (cap : Nat) (ps : List (List Nat)), v = .slice A ps.length cap ∧ ps.length ≤ cap ∧ cap ≤ maxLen ∧ PW W A ps := by
  obtain ⟨a0, len0, cap0, hv0⟩ := okWide_slice Tryd.underlying41 hv
  subst hv0
  clear hv
  obtain ⟨fuel, hf⟩ := h
  rcases open_int_rows Tryd.underlying41 Tryd.underlying22 Tryd.underlying5 cells22 cells5 hf with ⟨hcs, hx⟩ | ⟨a, len, cap, A, L, C, Z, hcs, _, hl, hm, hx, hrow⟩
  · simp [Value.cells] at hcs
    obtain ⟨rfl, rfl, rfl⟩ := hcs
    exact ⟨none, 0, [], rfl, Nat.le_refl _, Nat.zero_le _, .inl rfl⟩
  · simp [Value.cells] at hcs
    obtain ⟨rfl, rfl, rfl⟩ := hcs
    simp only [Prod.mk.injEq] at hx
    obtain ⟨rfl, rfl⟩ := hx
    refine ⟨some a, cap0, (List.range len0).map (fun r => ((Z r).take (L r)).map Int.toNat), by simp, by simpa using hl, hm, ?_⟩
    by_cases h0 : len0 = 0
    · left; simp [h0]
    right
    have hc0 := (hrow 0 (by omega)).1
    have hspot : a.spot = none := by
      obtain ⟨b, off, spot⟩ := a
      simpa [Addr.add] using World.cell?_spot hc0
    obtain ⟨b, off, spot⟩ := a
    simp only at hspot
    subst hspot
    rw [addr_add] at hc0
    refine ⟨b, off, rfl, block_lt_of_cell hc0, fun j hj => ?_⟩
    have hj' : j < len0 := by simpa using hj
    obtain ⟨h1, h2, h3, h4, h5, h6, h7⟩ := hrow j (by omega)
    rw [addr_add] at h1
    have hget : ((List.range len0).map (fun r => ((Z r).take (L r)).map Int.toNat)).getD j [] = ((Z j).take (L j)).map Int.toNat := by
      simp [List.getD_eq_getElem?_getD, List.getElem?_range hj']
    rw [hget]
    have hlen : (((Z j).take (L j)).map Int.toNat).length = L j := by simp; omega
    have hb : ∀ z ∈ Z j, 0 ≤ z ∧ z ≤ 255 := fun z hz => by simpa [Lit.wf, IntKind.min, IntKind.max, IntKind.signed, IntKind.bits] using h5 z hz
    have hcap : C j ≤ 140737488355328 := by
      cases hA : A j with
      | none => have := h6 hA; omega
      | some ad =>
        have hmem : C j ∈ (intRow (H := H) IntKind.u8 (A j) (L j) (Z j)).weights Tryd.prog 22 := by
          rw [hA]
          unfold intRow DataW.weights
          simp only [Tryd.underlying22, bytes5]
          refine List.mem_cons.2 (.inl ?_)
          simp [lits]; omega
        have := List.all_eq_true.1 hw (C j) (by
          unfold DataW.weights
          simp only [Tryd.underlying41]
          refine List.mem_cons_of_mem _ (List.mem_append_left _ (weights_mem 22 _ _ (List.mem_map.2 ⟨j, List.mem_range.2 hj', rfl⟩) _ hmem)))
        have h9 : C j ≤ reachBytes := by simpa using this
        unfold reachBytes at h9
        omega
    refine ⟨A j, C j, by rw [hlen]; exact h1, by rw [hlen]; exact h2, hcap, ?_, ⟨fun e => ?_, fun ad had hne => ?_⟩⟩
    · refine Bytes.of_mem fun x hx => ?_
      obtain ⟨z, hz', rfl⟩ := List.mem_map.1 hx
      have := hb z (List.mem_of_mem_take hz')
      omega
    · have hc := h6 e
      refine ⟨hc, List.eq_nil_of_length_eq_zero (by rw [hlen]; omega)⟩
    · have hpos : 0 < L j := by rw [← hlen]; exact List.length_pos_iff.2 hne
      have hcell := (h7 ad had).2
      have hz0 := hcell 0 (by omega)
      have hsp : ad.spot = none := by
        obtain ⟨b, off, spot⟩ := ad
        simpa [Addr.add] using World.cell?_spot hz0
      obtain ⟨b2, off2, spot2⟩ := ad
      simp only at hsp
      subst hsp
      rw [addr_add] at hz0
      refine ⟨rfl, block_lt_of_cell hz0, fun i hi => ?_⟩
      rw [hlen] at hi
      have hci := hcell i (by omega)
      rw [addr_add] at hci
      rw [hci]
      have hi2 : i < (Z j).length := by omega
      have hz1 := hb (Z j)[i] (List.getElem_mem hi2)
      simp [List.getD_eq_getElem?_getD, List.getElem?_eq_getElem hi2, List.getElem?_take, hi]
      omega
end Go.Proofs.YtediocpdpghbfaaDoor
