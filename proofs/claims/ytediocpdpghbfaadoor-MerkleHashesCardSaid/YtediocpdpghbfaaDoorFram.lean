/- What every law's card shares: the tables out of the row's list, a world for the witness, an argument that is a slice of bytes. -/
import Derived.Test.YtediocpdpghbfaaDoorEqua
import Derived.Test.YtediocpdpghbfaaDoorCards
import Derived.Test.YtediocpdpghbfaaDoorTie
import Derived.WalkKit
import Derived.ProofKit
import Derived.OpenShut
import Derived.Carry
import Derived.LaidSub
import Derived.Deep.DeepHandedRow
import Derived.Lib.LaidTab
set_option linter.unusedSimpArgs false
set_option linter.unusedVariables false
namespace Go.Proofs.YtediocpdpghbfaaDoor
open Go Go.ChangeShapes Go.WideShapes Go.ChangeAt Go.RowKit

theorem own : ownKnob Tryd.prog.godebug = none := by kernel_rfl
theorem laidOut : laidOutB Tryd.prog = true := by kernel_rfl
theorem gK : Tryd.prog.globalNamed "giro/sha256.constants" = some 0 := by kernel_rfl
theorem gH : Tryd.prog.globalNamed "giro/sha256.initial" = some 1 := by kernel_rfl
theorem gKt : (Tryd.prog.globals[0]?).map (·.type) = some 29 := by kernel_rfl
theorem gHt : (Tryd.prog.globals[1]?).map (·.type) = some 30 := by kernel_rfl
theorem cells28 : Tryd.prog.cellsOf 28 = 1 := by kernel_rfl
theorem cells29 : Tryd.prog.cellsOf 29 = 64 := by kernel_rfl
theorem cells30 : Tryd.prog.cellsOf 30 = 8 := by kernel_rfl
theorem cells5 : Tryd.prog.cellsOf 5 = 1 := by kernel_rfl
theorem heap_of_var {W : World} {n : String} {g : Nat} {cs : Array Value} (hg : Tryd.prog.globalNamed n = some g) (h : W.var? Tryd.prog n = some cs) : ∃ t fr, W.heap[g]? = some (.cells cs t fr) := by
  simp only [World.var?, hg, Option.bind_some] at h
  split at h
  · rename_i cs' t fr he
    injection h with h
    subst h
    exact ⟨t, fr, he⟩
  · cases h
abbrev laidBoth : List (String × DataW Unit) := [("giro/sha256.constants", Rows.laid_giro_sha256_constants), ("giro/sha256.initial", Rows.laid_giro_sha256_initial)]
theorem tabs_of {W : World} (h : laidMetH Tryd.prog laidBoth W) : Tabs W := by
  have h1 : laidMet Tryd.prog laidBoth W := h
  have h2 : laidMet Tryd.prog [("giro/sha256.initial", Rows.laid_giro_sha256_initial)] W := by
    have := h1.filter (fun x => x.1 == "giro/sha256.initial")
    exact this
  have t1 : Lib.TabIs Tryd.prog W "giro/sha256.constants" .u32 (KK.map fun x : Nat => (x : Int)) :=
    Lib.tabIs_of_head (rest := [("giro/sha256.initial", Rows.laid_giro_sha256_initial)]) gK gKt Tryd.underlying29 Tryd.underlying28 cells28 cells29 h1
  have t2 : Lib.TabIs Tryd.prog W "giro/sha256.initial" .u32 (HH.map fun x : Nat => (x : Int)) :=
    Lib.tabIs_of_head (rest := []) gH gHt Tryd.underlying30 Tryd.underlying28 cells28 cells30 h2
  obtain ⟨ty1, fr1, e1⟩ := heap_of_var gK t1
  obtain ⟨ty2, fr2, e2⟩ := heap_of_var gH t2
  refine ⟨(Array.getElem?_eq_some_iff.1 e2).1, ⟨ty1, fr1, ?_⟩, ⟨ty2, fr2, ?_⟩⟩
  · rw [e1, List.map_map]; rfl
  · rw [e2, List.map_map]; rfl

/-- a world for the witness -/
def putCells (cs : Array Value) : Obj → Obj
  | .cells _ t frozen => .cells cs t frozen
  | o => o
noncomputable def laidWorld (os : Os) : World :=
  { World.holding Tryd.prog os ⟨#[], #[], []⟩ with heap := ((World.holding Tryd.prog os ⟨#[], #[], []⟩).heap.modify 0 (putCells (u32s KK))).modify 1 (putCells (u32s HH)) }

set_option maxRecDepth 100000 in
/-- an argument that is a slice of bytes -/
theorem slice_arg {H : Type} {enc : TypeId × Value → H} {W : World} {base : Nat} {v : Value} {d : DataW H} {p : List MemPlace}
    (hv : Value.okWide Tryd.prog W .any base 22 v) (h : DataW.Trod enc Tryd.prog W 0 (fun _ => true) true 22 v d p) (hlt : ∀ x ∈ p, x.block < W.heap.size) :
    ∃ (A : Option Addr) (cap : Nat) (b : List Nat), v = .slice A b.length cap ∧ b.length ≤ cap ∧ cap ≤ maxLen ∧ Bytes b ∧ RW W A cap b := by
  obtain ⟨a0, len, cap, hv0⟩ := okWide_slice Tryd.underlying22 hv
  subst hv0
  clear hv
  obtain ⟨fuel, hf⟩ := h
  rcases open_ints Tryd.underlying22 Tryd.underlying5 cells5 hf with ⟨hcs, hx⟩ | ⟨a, len', cap', zs, hcs, _, hl, hm, hz, hx, hcell, hwz⟩
  · simp [Value.cells] at hcs
    obtain ⟨rfl, rfl, rfl⟩ := hcs
    exact ⟨none, 0, [], rfl, Nat.le_refl _, Nat.zero_le _, Bytes.nil, ⟨fun _ => ⟨rfl, rfl⟩, fun _ h => by cases h⟩⟩
  · simp [Value.cells] at hcs
    obtain ⟨rfl, rfl, rfl⟩ := hcs
    simp only [Prod.mk.injEq] at hx
    obtain ⟨rfl, rfl⟩ := hx
    simp only [if_true] at hz
    have hb : ∀ z ∈ zs, 0 ≤ z ∧ z ≤ 255 := fun z hz => by simpa [Lit.wf, IntKind.min, IntKind.max, IntKind.signed, IntKind.bits] using hwz z hz
    have hl' : ((zs.take len).map Int.toNat).length = len := by simp; omega
    refine ⟨some a, cap, (zs.take len).map Int.toNat, by rw [hl'], by rw [hl']; exact hl, hm, ?_, ⟨(fun e => by cases e), fun ad had hne => ?_⟩⟩
    · refine Bytes.of_mem fun x hx => ?_
      obtain ⟨z, hz', rfl⟩ := List.mem_map.1 hx
      have := hb z (List.mem_of_mem_take hz')
      omega
    · injection had with had
      subst had
      have hpos : 0 < len := by
        rw [← hl']; exact List.length_pos_iff.2 hne
      have hspot : a.spot = none := by
        have h0 := hcell 0 (by omega)
        obtain ⟨b, off, spot⟩ := a
        simpa [Addr.add] using World.cell?_spot h0
      obtain ⟨b, off, spot⟩ := a
      simp only at hspot
      subst hspot
      refine ⟨rfl, hlt (.cell b off) (MemPlace.mem_row.2 ⟨0, by omega, by simp⟩), fun j hj => ?_⟩
      rw [hl'] at hj
      have h0 := hcell j (by omega)
      rw [addr_add] at h0
      rw [h0]
      have hj2 : j < zs.length := by omega
      have hz0 := hb zs[j] (List.getElem_mem hj2)
      simp [List.getD_eq_getElem?_getD, List.getElem?_eq_getElem hj2, List.getElem?_take, hj]
      omega
end Go.Proofs.YtediocpdpghbfaaDoor
