/- An argument that is an array of words or of bytes. -/
import Derived.Test.YtediocpdpghbfaaDoorFram
set_option linter.unusedSimpArgs false
set_option linter.unusedVariables false
namespace Go.Proofs.YtediocpdpghbfaaDoor
open Go Go.ChangeShapes Go.WideShapes Go.ChangeAt Go.RowKit

def zOf : Value → Int
  | .int _ z => z
  | _ => 0
set_option maxRecDepth 100000 in
theorem arr_cells {W : World} {base n : Nat} {t e : TypeId} {k : IntKind} {v : Value} (ht : Tryd.prog.underlying t = some (.array n e)) (he : Tryd.prog.underlying e = some (.int k))
    (hts : (Tryd.prog.cellTypes Tryd.prog.depth t).map (fun ts => ts.all (· == e)) = some true) (hv : Value.okWide Tryd.prog W .any base t v) :
    ∃ zs : List Int, v = .agg (zs.map fun z => Value.int k z).toArray ∧ zs.length = Tryd.prog.cellsOf t ∧ ∀ z ∈ zs, k.has z := by
  simp only [Value.okWide, ht] at hv
  obtain ⟨cs, rfl, hsz, ts, h1, _, h3⟩ := hv
  rw [h1] at hts
  have hall : ∀ u ∈ ts, u = e := by simpa using hts
  have hc : ∀ (i : Nat) (x : Value), cs[i]? = some x → ∃ z, x = Value.int k z ∧ k.has z := by
    intro i x hx
    obtain ⟨u, hu, hok⟩ := h3 i x hx
    obtain rfl := hall u (List.mem_of_getElem? hu)
    unfold Cell.okWide at hok
    rw [he] at hok
    cases x <;> simp [Cell.ok, he] at hok
    exact ⟨_, by rw [hok.1], hok.2⟩
  refine ⟨cs.toList.map zOf, ?_, by simp [hsz], ?_⟩
  · congr 1
    apply Array.ext'
    simp only [List.map_map]
    refine List.ext_getElem (by simp) fun i h1 h2 => ?_
    obtain ⟨z, hz, _⟩ := hc i cs.toList[i] (by simp [Array.getElem?_eq_getElem (by simpa using h1)])
    simp only [List.getElem_map, Function.comp_apply]
    rw [hz]
    rfl
  · intro z hz
    obtain ⟨x, hx, rfl⟩ := List.mem_map.1 hz
    obtain ⟨i, hi⟩ := List.getElem?_of_mem hx
    obtain ⟨z, rfl, hz2⟩ := hc i x (by simpa using hi)
    exact hz2
theorem arr_nat (k : IntKind) (zs : List Int) (h : ∀ z ∈ zs, 0 ≤ z) : (zs.map fun z => Value.int k z) = (zs.map Int.toNat).map fun n : Nat => Value.int k (n : Int) := by
  rw [List.map_map]
  refine List.map_congr_left fun z hz => ?_
  simp only [Function.comp_apply]
  rw [Int.toNat_of_nonneg (h z hz)]
set_option maxRecDepth 100000 in
theorem st_arg {W : World} {base : Nat} {v : Value} (hv : Value.okWide Tryd.prog W .any base 30 v) : ∃ l : List Nat, v = .agg (u32s l) ∧ l.length = 8 ∧ Words l := by
  obtain ⟨zs, rfl, hl, hz⟩ := arr_cells Tryd.underlying30 Tryd.underlying28 (by kernel_rfl) hv
  have hb : ∀ z ∈ zs, 0 ≤ z ∧ z ≤ 4294967295 := fun z h => by simpa [IntKind.has, IntKind.min, IntKind.max, IntKind.signed, IntKind.bits] using hz z h
  refine ⟨zs.map Int.toNat, by rw [arr_nat _ zs (fun z h => (hb z h).1)]; rfl, by rw [List.length_map, hl, cells30], fun i => ?_⟩
  rcases Nat.lt_or_ge i zs.length with hi | hi
  · have := hb zs[i] (List.getElem_mem hi)
    simp [List.getD_eq_getElem?_getD, List.getElem?_eq_getElem hi]; omega
  · simp [List.getD_eq_getElem?_getD, List.getElem?_eq_none hi]
theorem cells37 : Tryd.prog.cellsOf 37 = 64 := by kernel_rfl
theorem cells24 : Tryd.prog.cellsOf 24 = 32 := by kernel_rfl
set_option maxRecDepth 100000 in
theorem bytes_arr {W : World} {base n : Nat} {t : TypeId} {v : Value} (ht : Tryd.prog.underlying t = some (.array n 5)) (hts : (Tryd.prog.cellTypes Tryd.prog.depth t).map (fun ts => ts.all (· == 5)) = some true)
    (hv : Value.okWide Tryd.prog W .any base t v) : ∃ l : List Nat, v = .agg (u8s l) ∧ l.length = Tryd.prog.cellsOf t ∧ Bytes l := by
  obtain ⟨zs, rfl, hl, hz⟩ := arr_cells ht Tryd.underlying5 hts hv
  have hb : ∀ z ∈ zs, 0 ≤ z ∧ z ≤ 255 := fun z h => by simpa [IntKind.has, IntKind.min, IntKind.max, IntKind.signed, IntKind.bits] using hz z h
  refine ⟨zs.map Int.toNat, by rw [arr_nat _ zs (fun z h => (hb z h).1)]; rfl, by rw [List.length_map, hl], Bytes.of_mem fun x hx => ?_⟩
  obtain ⟨z, h, rfl⟩ := List.mem_map.1 hx
  have := hb z h
  omega
end Go.Proofs.YtediocpdpghbfaaDoor
