/- Merkle: Collision, the plain law; bytes.Equal. -/
import Derived.Test.YtediocpdpghbfaaDoorMver
import Derived.Test.YtediocpdpghbfaaDoorShaQ
set_option linter.unusedSimpArgs false
set_option linter.unusedVariables false
namespace Go.Proofs.YtediocpdpghbfaaDoor
open Go Go.RowKit

def inX (leaf : List Nat) (rs : List Bool) (ps : List (List Nat)) : Nat → List Nat
  | 0 => 0 :: leaf
  | j + 1 => stepIn (rs.getD j false) (ps.getD j []) (foldS (leafL leaf) (rs.take j) (ps.take j))
def hX (leaf : List Nat) (rs : List Bool) (ps : List (List Nat)) (j : Nat) : List Nat := foldS (leafL leaf) (rs.take j) (ps.take j)
theorem steps_at (leaf : List Nat) (rs : List Bool) (ps : List (List Nat)) : ∀ k j, j ≤ k → (stepsL leaf rs ps k).getD j ([], []) = (inX leaf rs ps j, hX leaf rs ps j)
  | 0, j, h => by
    obtain rfl : j = 0 := by omega
    simp [stepsL, inX, hX, foldS]
  | k + 1, j, h => by
    have hl := stepsL_length leaf rs ps k
    rcases Nat.lt_or_ge j (k + 1) with h1 | h1
    · have ih := steps_at leaf rs ps k j (by omega)
      rw [List.getD_eq_getElem?_getD] at ih ⊢
      simp only [stepsL]
      rw [List.getElem?_append_left (by omega)]
      exact ih
    · obtain rfl : j = k + 1 := by omega
      simp only [stepsL, List.getD_eq_getElem?_getD]
      rw [List.getElem?_append_right (by omega), hl]
      simp [inX, hX]
theorem hX_sha (leaf : List Nat) (rs : List Bool) (ps : List (List Nat)) (j : Nat) (hr : j ≤ rs.length) (hp : j ≤ ps.length) : hX leaf rs ps j = sha (inX leaf rs ps j) := by
  cases j with
  | zero => simp [hX, inX, foldS, leafL]
  | succ j =>
    have e1 : rs.take (j + 1) = rs.take j ++ [rs.getD j false] := by
      rw [List.take_succ_eq_append_getElem (by omega)]; simp [List.getD_eq_getElem?_getD, List.getElem?_eq_getElem (show j < rs.length by omega)]
    have e2 : ps.take (j + 1) = ps.take j ++ [ps.getD j []] := by
      rw [List.take_succ_eq_append_getElem (by omega)]; simp [List.getD_eq_getElem?_getD, List.getElem?_eq_getElem (show j < ps.length by omega)]
    unfold hX
    rw [e1, e2, foldS_snoc _ _ _ _ _ (by rw [List.length_take, List.length_take]; omega)]
    simp only [inX, stepS, stepIn]
    cases rs.getD j false <;> simp [nodeL]
theorem hX_len (leaf : List Nat) (rs : List Bool) (ps : List (List Nat)) (j : Nat) : (hX leaf rs ps j).length = 32 := (foldS_ok _ _ _ (leafL_length leaf) (sha_bytes _)).1
/-- the plain law: no collision among the steps means that nothing differs -/
theorem steps_same (a b : List Nat) (rs : List Bool) (ps qs : List (List Nat)) (k : Nat) (hp : ps.length = k) (hq : qs.length = k) (hdp : Digs ps) (hdq : Digs qs)
    (hno : ∀ j, j ≤ k → hX a rs ps j = hX b rs qs j → inX a rs ps j = inX b rs qs j) : ∀ j, j ≤ k → hX a rs ps j = hX b rs qs j → a = b ∧ ∀ t, t < j → ps.getD t [] = qs.getD t []
  | 0, hj, h => by
    have := hno 0 hj h
    simp only [inX, List.cons.injEq, true_and] at this
    exact ⟨this, fun t ht => by omega⟩
  | j + 1, hj, h => by
    have h1 := hno (j + 1) hj h
    have l1 := (digs_at hdp (k := j) (by omega)).1
    have l2 := (digs_at hdq (k := j) (by omega)).1
    have l3 := hX_len a rs ps j
    have l4 := hX_len b rs qs j
    have h2 : ps.getD j [] = qs.getD j [] ∧ hX a rs ps j = hX b rs qs j := by
      simp only [inX, stepIn] at h1
      unfold hX at l3 l4 ⊢
      cases hr : rs.getD j false with
      | true =>
        rw [hr] at h1
        simp only [if_true, List.cons.injEq, true_and] at h1
        exact List.append_inj h1 (by omega)
      | false =>
        rw [hr] at h1
        simp only [Bool.false_eq_true, if_false, List.cons.injEq, true_and] at h1
        exact (List.append_inj h1 (by omega)).symm
    obtain ⟨e1, e2⟩ := steps_same a b rs ps qs k hp hq hdp hdq hno j (by omega) h2.2
    refine ⟨e1, fun t ht => ?_⟩
    rcases Nat.lt_or_ge t j with h | h
    · exact e2 t h
    · obtain rfl : t = j := by omega
      exact h2.1
theorem list_same {ps qs : List (List Nat)} {k : Nat} (hp : ps.length = k) (hq : qs.length = k) (h : ∀ t, t < k → ps.getD t [] = qs.getD t []) : ps = qs := by
  refine List.ext_getElem (by omega) fun t h1 h2 => ?_
  have := h t (by omega)
  simpa [List.getD_eq_getElem?_getD, List.getElem?_eq_getElem h1, List.getElem?_eq_getElem h2] using this
theorem strOf_toList (l : List Nat) : (strOf l).toList = l.map UInt8.ofNat := by
  simp [strOf]
theorem strOf_eq (a b : List Nat) (hA : Bytes a) (hB : Bytes b) : ((strOf a).toList == (strOf b).toList) = decide (a = b) := by
  rw [strOf_toList, strOf_toList, Bool.eq_iff_iff, beq_iff_eq, decide_eq_true_iff]
  refine ⟨fun h => ?_, fun h => by rw [h]⟩
  have hl : a.length = b.length := by have := congrArg List.length h; simpa using this
  refine List.ext_getElem hl fun t h1 h2 => ?_
  have e : (a.map UInt8.ofNat)[t]'(by simpa using h1) = (b.map UInt8.ofNat)[t]'(by simpa using h2) := by simp only [h]
  simp only [List.getElem_map] at e
  have e2 := congrArg UInt8.toNat e
  have b1 := hA.mem _ (List.getElem_mem h1)
  have b2 := hB.mem _ (List.getElem_mem h2)
  simp only [UInt8.toNat_ofNat'] at e2
  omega
set_option maxRecDepth 100000 in
theorem bequal_any (w : World) (a b : List Nat) (A B : Option Addr) (n m ca cb : Nat) (ha : a.length = n) (hb : b.length = m) (hA : Bytes a) (hB : Bytes b) (hRa : RW w A ca a) (hRb : RW w B cb b) :
    Calls Tryd.prog 86 #[.slice A n ca, .slice B m cb] w fun e w' => e = .returned (.bool (decide (a = b))) ∧ w = w' := by
  have c1 := convert_rw w A ca a n ha hA hRa
  have c2 := convert_rw w B cb b m hb hB hRb
  rw [← strOf_eq a b hA hB]
  clear hRa hRb ha hb hA hB
  generalize strOf a = s at *
  generalize strOf b = t at *
  go_enter Tryd.func86, Tryd.ntmps86
  go_wp2_with fail
  go_ret
  exact ⟨rfl, rfl⟩
end Go.Proofs.YtediocpdpghbfaaDoor
