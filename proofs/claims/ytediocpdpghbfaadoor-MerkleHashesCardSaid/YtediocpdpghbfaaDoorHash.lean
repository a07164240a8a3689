/- A hash in memory; New, Len, Clone -/
import Derived.Test.YtediocpdpghbfaaDoorPadw
set_option linter.unusedSimpArgs false
set_option linter.unusedVariables false
namespace Go.Proofs.YtediocpdpghbfaaDoor
open Go Go.RowKit

/-- the cells of a hash: the state, the buffer, the length -/
def hcells (st buf : List Nat) (n : Nat) : Array Value := u32s st ++ u8s buf ++ #[.int .i64 (n : Int)]
/-- block g is a hash to which the bytes m have been written -/
def IsHash (w : World) (g : Nat) (m : List Nat) : Prop :=
  ∃ buf : List Nat, buf.length = 64 ∧ Bytes buf ∧ buf.take (m.length % 64) = m.drop (64 * (m.length / 64)) ∧ Blk w g 104 (hcells (states HH m (m.length / 64)) buf m.length)

theorem IsHash.below {w w' : World} {g B : Nat} {m : List Nat} (h : IsHash w g m) (hb : Below B w w') (hg : g < B) : IsHash w' g m :=
  let ⟨buf, h1, h2, h3, h4⟩ := h; ⟨buf, h1, h2, h3, h4.below hb hg⟩
theorem IsHash.grown {w w' : World} {g : Nat} {m : List Nat} {row : Option Nat} (h : IsHash w g m) (hb : w.grownBy w' row) (hg : some g ≠ row) : IsHash w' g m :=
  let ⟨buf, h1, h2, h3, h4⟩ := h; ⟨buf, h1, h2, h3, h4.grown hb hg⟩
theorem IsHash.lt {w : World} {g : Nat} {m : List Nat} (h : IsHash w g m) : g < w.heap.size := let ⟨_, _, _, _, h4⟩ := h; h4.lt

theorem hcells_size (st buf : List Nat) (n : Nat) (h : st.length = 8) (hb : buf.length = 64) : (hcells st buf n).size = 73 := by
  simp [hcells, u32s_size, u8s_size, h, hb]
theorem hcells_state (st buf : List Nat) (n : Nat) (h : st.length = 8) (j : Nat) (hj : j < 8) : (hcells st buf n)[j]? = (u32s st)[j]? := by
  have h8 : (u32s st).size = 8 := by rw [u32s_size, h]
  rw [hcells, Array.append_assoc, Array.getElem?_append_left (by omega)]
theorem hcells_buf (st buf : List Nat) (n : Nat) (h : st.length = 8) (hb : buf.length = 64) (j : Nat) (hj : j < 64) : (hcells st buf n)[8 + j]? = (u8s buf)[j]? := by
  have h8 : (u32s st).size = 8 := by rw [u32s_size, h]
  have h64 : (u8s buf).size = 64 := by rw [u8s_size, hb]
  rw [hcells, Array.append_assoc, Array.getElem?_append_right (by omega), Array.getElem?_append_left (by omega), h8]
  congr 1; omega
theorem hcells_len (st buf : List Nat) (n : Nat) (h : st.length = 8) (hb : buf.length = 64) : (hcells st buf n)[72]? = some (.int .i64 (n : Int)) := by
  have h8 : (u32s st).size = 8 := by rw [u32s_size, h]
  have h64 : (u8s buf).size = 64 := by rw [u8s_size, hb]
  rw [hcells, Array.getElem?_append_right (by rw [Array.size_append]; omega), Array.size_append, h8, h64]
  rfl
theorem hcells_one (st buf : List Nat) (n : Nat) : (hcells st buf n).all (·.oneCell') = true := by
  simp only [hcells, Array.all_append, u32s_one, u8s_one]; simp [Value.oneCell']

attribute [local go_sem ↓] ld30 ld104 st104
theorem HH_row {w : World} (hT : Tabs w) : (loadAgg 30 (.pointer (some ⟨1, 0, none⟩))).run Tryd.prog w = .ok (.agg (u32s HH)) w := by
  obtain ⟨t, fr, h⟩ := hT.h
  have := loadAgg_run (P := Tryd.prog) (w := w) (ty := 30) (g := 1) (off := 0) (u32s HH).toList Tryd.underlying30 rfl (by kernel_rfl) (fun j v hv => by
    rw [cell_of_row w 1 (0 + j) _ t fr h, Nat.zero_add]; simpa using hv)
  simpa using this

theorem new_built : (Tryd.prog.built 104 [(0, Value.agg (u32s HH))]).getD #[] = hcells HH (List.replicate 64 0) 0 := by kernel_rfl
theorem new_any (w : World) (hT : Tabs w) :
    Calls Tryd.prog 25 #[] w fun e w' => e = .returned (.pointer (some ⟨w.heap.size, 0, none⟩)) ∧ IsHash w' w.heap.size [] ∧ Below w.heap.size w w' := by
  have hr := HH_row hT
  go_enter Tryd.func25, Tryd.ntmps25
  go_wp2_with (refine wpList_build rfl 104 _ rfl (by kernel_rfl) ?_)
  go_ret
  rw [new_built]
  exact ⟨rfl, ⟨List.replicate 64 0, rfl, Bytes.of_mem (by simp), rfl, Blk.new _ _ _⟩, (Below.refl _ _).alloc (Nat.le_refl _) _⟩

theorem len_nil (w : World) : Calls Tryd.prog 27 #[.pointer none] w fun e w' => e = .returned (.int .i64 0) ∧ w = w' := by
  go_enter Tryd.func27, Tryd.ntmps27
  go_wp2
  go_ret
  exact ⟨rfl, rfl⟩
theorem len_any (w : World) (g : Nat) (m : List Nat) (h : IsHash w g m) : Calls Tryd.prog 27 #[.pointer (some ⟨g, 0, none⟩)] w fun e w' => e = .returned (.int .i64 (m.length : Nat)) ∧ w = w' := by
  obtain ⟨buf, h1, h2, h3, h4⟩ := h
  have c := (h4.cell 72).trans (hcells_len _ buf _ (states_length rfl _ _) h1)
  generalize m.length = n at *
  clear h1 h2 h3 h4
  go_enter Tryd.func27, Tryd.ntmps27
  go_wp2
  go_ret
  exact ⟨rfl, rfl⟩

theorem clone_nil (w : World) : Calls Tryd.prog 31 #[.pointer none] w fun e w' => e = .returned (.pointer none) ∧ w = w' := by
  go_enter Tryd.func31, Tryd.ntmps31
  go_wp2
  go_ret
  exact ⟨rfl, rfl⟩
theorem clone_any (w : World) (g : Nat) (m : List Nat) (h : IsHash w g m) :
    Calls Tryd.prog 31 #[.pointer (some ⟨g, 0, none⟩)] w fun e w' => e = .returned (.pointer (some ⟨w.heap.size, 0, none⟩)) ∧ IsHash w' w.heap.size m ∧ Below w.heap.size w w' := by
  obtain ⟨buf, h1, h2, h3, h4⟩ := h
  have hsz := hcells_size (states HH m (m.length / 64)) buf m.length (states_length rfl _ _) h1
  have hone := hcells_one (states HH m (m.length / 64)) buf m.length
  generalize hcs : hcells (states HH m (m.length / 64)) buf m.length = cs at *
  have hld : (loadAgg 104 (.pointer (some ⟨g, 0, none⟩))).run Tryd.prog w = .ok (.agg cs) w := by
    have := loadAgg_run (P := Tryd.prog) (w := w) (ty := 104) (g := g) (off := 0) cs.toList Tryd.underlying104 rfl (by simp only [Array.length_toList, hsz]; kernel_rfl) (fun j v hv => by
      rw [Nat.zero_add, h4.cell]; simpa using hv)
    simpa using this
  have HH := Lib.hid (And.intro hcs (And.intro h4 (And.intro h3 (And.intro h2 h1)))); clear hcs h4 h3 h2 h1
  have HSZ := Lib.hid (And.intro hsz hone); clear hsz hone
  go_enter Tryd.func31, Tryd.ntmps31
  go_wp2_with (refine wpList_store_row rfl 104 (.tmp 3) (.tmp 8) rfl w.heap.size cs rfl rfl 104 _ (Blk.new _ _ _) (by rw [HSZ.out.1]; kernel_rfl) (by rw [HSZ.out.1]; rfl) HSZ.out.2 ?_)
  go_ret
  obtain ⟨hcs, h4, h3, h2, h1⟩ := HH.out
  refine ⟨rfl, ⟨buf, h1, h2, h3, ?_⟩, below_setRow' ((Below.refl _ _).alloc (Nat.le_refl _) _) (Nat.le_refl _) _⟩
  rw [hcs]
  exact (Blk.new _ _ _).setRow _
end Go.Proofs.YtediocpdpghbfaaDoor
