/- The arguments of the laws over changes, opened: a struct of cells of one kind; lists of two and three. -/
import Derived.Test.YtediocpdpghbfaaDoorShaR
set_option linter.unusedSimpArgs false
set_option linter.unusedVariables false
namespace Go.Proofs.YtediocpdpghbfaaDoor
open Go Go.ChangeShapes Go.WideShapes Go.ChangeAt Go.RowKit

set_option maxRecDepth 100000 in
theorem struct_cells {W : World} {base : Nat} {fs : Array Field} {t e : TypeId} {k : IntKind} {v : Value} (ht : Tryd.prog.underlying t = some (.struct fs)) (he : Tryd.prog.underlying e = some (.int k))
    (hts : (Tryd.prog.cellTypes Tryd.prog.depth t).map (fun ts => ts.all (· == e)) = some true) (hv : Value.okWide Tryd.prog W .any base t v) :
    ∃ zs : List Int, v = .agg (zs.map fun z => Value.int k z).toArray ∧ zs.length = Tryd.prog.cellsOf t ∧ ∀ z ∈ zs, k.has z := by
  simp only [Value.okWide, ht] at hv
  obtain ⟨cs, rfl, hsz, ts, h1, _, h3⟩ := hv
  rw [h1] at hts
  have hall : ∀ u ∈ ts, u = e := by simpa using hts
  have hc : ∀ (i : Nat) (x : Value), cs[i]? = some x → ∃ z, x = Value.int k z ∧ k.has z := by
    intro i x hx
    obtain ⟨u, hu, hok⟩ := h3 i x hx
    obtain rfl := hall u (List.mem_of_getElem? hu)
    unfold Cell.okWide at hok
    rw [he] at hok
    cases x <;> simp [Cell.ok, he] at hok
    exact ⟨_, by rw [hok.1], hok.2⟩
  refine ⟨cs.toList.map zOf, ?_, by simp [hsz], ?_⟩
  · congr 1
    apply Array.ext'
    simp only [List.map_map]
    refine List.ext_getElem (by simp) fun i h1 h2 => ?_
    obtain ⟨z, hz, _⟩ := hc i cs.toList[i] (by simp [Array.getElem?_eq_getElem (by simpa using h1)])
    simp only [List.getElem_map, Function.comp_apply]
    rw [hz]
    rfl
  · intro z hz
    obtain ⟨x, hx, rfl⟩ := List.mem_map.1 hz
    obtain ⟨i, hi⟩ := List.getElem?_of_mem hx
    obtain ⟨z, rfl, hz2⟩ := hc i x (by simpa using hi)
    exact hz2
theorem two_of {l : List Int} (h : l.length = 2) : ∃ a b, l = [a, b] := by
  match l, h with
  | [a, b], _ => exact ⟨a, b, rfl⟩
theorem three_of {l : List Int} (h : l.length = 3) : ∃ a b c, l = [a, b, c] := by
  match l, h with
  | [a, b, c], _ => exact ⟨a, b, c, rfl⟩
theorem cells82 : Tryd.prog.cellsOf 82 = 2 := by kernel_rfl
theorem cells84 : Tryd.prog.cellsOf 84 = 3 := by kernel_rfl
end Go.Proofs.YtediocpdpghbfaaDoor
