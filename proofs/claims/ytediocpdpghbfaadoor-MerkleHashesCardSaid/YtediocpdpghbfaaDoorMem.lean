/- Words for memory: a block that is known whole; arrays of words and of bytes as lists of numbers. -/
import Derived.Test.YtediocpdpghbfaaDoorBits
import Derived.Below
import Derived.Laws.OwnMore
import Derived.Deep.Draws
import Derived.Deep.AppendLies
import Derived.Laws.Rows
import Derived.Laws.CopyRow
import Derived.Laws.CopyOwn
import Derived.Laws.MakeOwn
set_option linter.unusedSimpArgs false
set_option linter.unusedVariables false
namespace Go.Proofs.YtediocpdpghbfaaDoor
open Go Go.RowKit

theorem addr_add (g off j : Nat) : (⟨g, off, none⟩ : Addr).add j = ⟨g, off + j, none⟩ := by unfold Addr.add; split <;> simp_all
/-- block g is just the cells cs of element type t, none frozen -/
def Blk (w : World) (g : Nat) (t : TypeId) (cs : Array Value) : Prop := w.heap[g]? = some (.cells cs t (0, 0))

section
variable {w w' : World} {g : Nat} {t : TypeId} {cs : Array Value}
theorem Blk.lt (h : Blk w g t cs) : g < w.heap.size := by
  rcases Nat.lt_or_ge g w.heap.size with hlt | hge
  · exact hlt
  · unfold Blk at h; rw [Array.getElem?_eq_none hge] at h; cases h
theorem Blk.cell (h : Blk w g t cs) (i : Nat) : w.cell? ⟨g, i, none⟩ = cs[i]? := cell_of_row w g i cs t (0, 0) h
theorem Blk.frozen (h : Blk w g t cs) (i : Nat) : w.frozen? ⟨g, i, none⟩ = false := by
  unfold Blk at h
  simp [World.frozen?, h]
theorem Blk.new (w : World) (t : TypeId) (cs : Array Value) : Blk (w.alloc (.cells cs t)) w.heap.size t cs := heap_alloc_new w _
theorem size1 (w : World) (o : Obj) : (w.alloc o).heap.size = w.heap.size + 1 := by simp
theorem Blk.new1 (w : World) (o : Obj) (t : TypeId) (cs : Array Value) : Blk ((w.alloc o).alloc (.cells cs t)) (w.heap.size + 1) t cs := by
  have h := Blk.new (w.alloc o) t cs; rwa [size1] at h
theorem Blk.new2 (w : World) (o o' : Obj) (t : TypeId) (cs : Array Value) : Blk (((w.alloc o).alloc o').alloc (.cells cs t)) (w.heap.size + 1 + 1) t cs := by
  have h := Blk.new1 (w.alloc o) o' t cs; rwa [size1] at h
theorem Blk.new3 (w : World) (o o' o'' : Obj) (t : TypeId) (cs : Array Value) : Blk ((((w.alloc o).alloc o').alloc o'').alloc (.cells cs t)) (w.heap.size + 1 + 1 + 1) t cs := by
  have h := Blk.new2 (w.alloc o) o' o'' t cs; rwa [size1] at h
theorem Blk.drew (h : Blk w g t cs) : Blk w.drew g t cs := h
theorem Blk.drewN (h : Blk w g t cs) (n : Nat) : Blk (w.drewN n) g t cs := h
theorem Blk.alloc (h : Blk w g t cs) (o : Obj) : Blk (w.alloc o) g t cs := (Below.heap_alloc w o g h.lt).trans h
theorem Blk.set_ (h : Blk w g t cs) (i : Nat) (u : Value) : Blk (w.setCell ⟨g, i, none⟩ u) g t (cs.setIfInBounds i u) := by
  unfold Blk at h ⊢
  simp [World.setCell, Array.getElem?_modify, h]
theorem Blk.far (h : Blk w g t cs) {p : Addr} (hp : g ≠ p.block) (u : Value) : Blk (w.setCell p u) g t cs := (Below.heap_setCell w p u g hp).trans h
theorem Blk.below {B : Nat} (h : Blk w g t cs) (hb : Below B w w') (hg : g < B) : Blk w' g t cs := (hb.block g hg).trans h
theorem Blk.grown {row : Option Nat} (h : Blk w g t cs) (hb : w.grownBy w' row) (hg : some g ≠ row) : Blk w' g t cs := (hb.block g h.lt hg).trans h
end

theorem Blk.setRow {w : World} {g : Nat} {t : TypeId} {old : Array Value} (h : Blk w g t old) (cs : Array Value) : Blk (w.setRow g cs) g t cs := setRow_heap w g old cs t (0, 0) h
theorem Blk.farRow {w : World} {g k : Nat} {t : TypeId} {cs : Array Value} (h : Blk w g t cs) (hk : g ≠ k) (cs' : Array Value) : Blk (w.setRow k cs') g t cs := (setRow_other w k g cs' hk).trans h
theorem below_setRow' {B g : Nat} {w0 w : World} (hb : Below B w0 w) (hBg : B ≤ g) (cs : Array Value) : Below B w0 (w.setRow g cs) :=
  hb.trans ⟨rfl, rfl, rfl, by simp, fun k hk => setRow_other w g k cs (by omega)⟩
theorem grown_drewN {a w : World} {row : Option Nat} (h : a.grownBy w row) (n : Nat) : a.grownBy (w.drewN n) row := ⟨h.os, h.tape, h.output, h.size, h.block⟩
theorem grown_setRow {a w : World} {g : Nat} (h : a.grownBy w (some g)) (cs : Array Value) : a.grownBy (w.setRow g cs) (some g) :=
  ⟨h.os, h.tape, h.output, by simpa using h.size, fun i hi hne => (setRow_other w g i cs (fun e => hne (by rw [e]))).trans (h.block i hi hne)⟩
theorem grown_setCell {a w : World} {g : Nat} (h : a.grownBy w (some g)) (i : Nat) (u : Value) : a.grownBy (w.setCell ⟨g, i, none⟩ u) (some g) :=
  ⟨h.os, h.tape, h.output, by simpa [World.setCell] using h.size, fun k hi hne => (Below.heap_setCell w _ u k (fun e => hne (by rw [e]))).trans (h.block k hi hne)⟩
theorem grown_alloc {a w : World} {row : Option Nat} (h : a.grownBy w row) (o : Obj) : a.grownBy (w.alloc o) row :=
  ⟨h.os, h.tape, h.output, Nat.le_trans h.size (by simp), fun i hi hne => (Below.heap_alloc w o i (Nat.lt_of_lt_of_le hi h.size)).trans (h.block i hi hne)⟩
theorem grown_below {a w w' : World} {row : Option Nat} (h : a.grownBy w row) {B : Nat} (hb : Below B w w') (hB : a.heap.size ≤ B) : a.grownBy w' row :=
  ⟨hb.os.trans h.os, hb.tape.trans h.tape, hb.output.trans h.output, Nat.le_trans h.size hb.size, fun i hi hne => (hb.block i (by omega)).trans (h.block i hi hne)⟩
theorem grown_trans {a b c : World} {row : Option Nat} (h : a.grownBy b row) (k : b.grownBy c row) : a.grownBy c row :=
  ⟨k.os.trans h.os, k.tape.trans h.tape, k.output.trans h.output, Nat.le_trans h.size k.size, fun i hi hne => (k.block i (Nat.lt_of_lt_of_le hi h.size) hne).trans (h.block i hi hne)⟩
theorem below_drewN {B : Nat} {a w : World} (h : Below B a w) (n : Nat) : Below B a (w.drewN n) := ⟨h.os, h.tape, h.output, h.size, h.block⟩

/-- an array of words; an array of bytes -/
def u32s (l : List Nat) : Array Value := (l.map fun n : Nat => Value.int .u32 (n : Int)).toArray
def u8s (l : List Nat) : Array Value := (l.map fun n : Nat => Value.int .u8 (n : Int)).toArray
theorem u32s_one (l : List Nat) : (u32s l).all (·.oneCell') = true := by simp [u32s, Value.oneCell']
theorem u8s_one (l : List Nat) : (u8s l).all (·.oneCell') = true := by simp [u8s, Value.oneCell']
theorem u32s_size (l : List Nat) : (u32s l).size = l.length := by simp [u32s]
theorem u8s_size (l : List Nat) : (u8s l).size = l.length := by simp [u8s]
theorem u32s_at (l : List Nat) (i : Nat) (h : i < l.length) : (u32s l)[i]? = some (.int .u32 (l.getD i 0 : Nat)) := by
  simp [u32s, List.getElem?_eq_getElem h, List.getD_eq_getElem?_getD]
theorem u8s_at (l : List Nat) (i : Nat) (h : i < l.length) : (u8s l)[i]? = some (.int .u8 (l.getD i 0 : Nat)) := by
  simp [u8s, List.getElem?_eq_getElem h, List.getD_eq_getElem?_getD]
theorem u32s_set (l : List Nat) (i n : Nat) : (u32s l).setIfInBounds i (.int .u32 (n : Int)) = u32s (l.set i n) := by
  simp [u32s, List.map_set]
theorem u8s_set (l : List Nat) (i n : Nat) : (u8s l).setIfInBounds i (.int .u8 (n : Int)) = u8s (l.set i n) := by
  simp [u8s, List.map_set]
section
variable {w : World} {g : Nat} {t : TypeId} {l : List Nat}
theorem Blk.u32 (h : Blk w g t (u32s l)) {i : Nat} (hi : i < l.length) : w.cell? ⟨g, i, none⟩ = some (.int .u32 (l.getD i 0 : Nat)) := (h.cell i).trans (u32s_at l i hi)
theorem Blk.u8 (h : Blk w g t (u8s l)) {i : Nat} (hi : i < l.length) : w.cell? ⟨g, i, none⟩ = some (.int .u8 (l.getD i 0 : Nat)) := (h.cell i).trans (u8s_at l i hi)
end
section
variable {w : World} {g : Nat} {t : TypeId} {l l' : List Nat}
theorem Blk.set32 (h : Blk w g t (u32s l)) (i x : Nat) (hl : l.set i x = l') : Blk (w.setCell ⟨g, i, none⟩ (.int .u32 (x : Int))) g t (u32s l') := by
  have := h.set_ i (.int .u32 (x : Int)); rwa [u32s_set, hl] at this
theorem Blk.set8 (h : Blk w g t (u8s l)) (i x : Nat) (hl : l.set i x = l') : Blk (w.setCell ⟨g, i, none⟩ (.int .u8 (x : Int))) g t (u8s l') := by
  have := h.set_ i (.int .u8 (x : Int)); rwa [u8s_set, hl] at this
end

/-! ### loads and stores of whole arrays and structs, behind names of their own, so that the walk does not take them cell by cell -/
def loadAgg (ty : TypeId) (x : Value) : Sem Value := Instr.loadAt ty x
def storeAgg (ty : TypeId) (x v : Value) : Sem Unit := Instr.storeAt ty x v
theorem ld24 (x : Value) : Instr.loadAt 24 x = loadAgg 24 x := rfl
theorem ld25 (x : Value) : Instr.loadAt 25 x = loadAgg 25 x := rfl
theorem ld29 (x : Value) : Instr.loadAt 29 x = loadAgg 29 x := rfl
theorem ld30 (x : Value) : Instr.loadAt 30 x = loadAgg 30 x := rfl
theorem ld32 (x : Value) : Instr.loadAt 32 x = loadAgg 32 x := rfl
theorem ld37 (x : Value) : Instr.loadAt 37 x = loadAgg 37 x := rfl
theorem ld104 (x : Value) : Instr.loadAt 104 x = loadAgg 104 x := rfl
theorem st24 (x v : Value) : Instr.storeAt 24 x v = storeAgg 24 x v := rfl
theorem st25 (x v : Value) : Instr.storeAt 25 x v = storeAgg 25 x v := rfl
theorem st29 (x v : Value) : Instr.storeAt 29 x v = storeAgg 29 x v := rfl
theorem st30 (x v : Value) : Instr.storeAt 30 x v = storeAgg 30 x v := rfl
theorem st32 (x v : Value) : Instr.storeAt 32 x v = storeAgg 32 x v := rfl
theorem st37 (x v : Value) : Instr.storeAt 37 x v = storeAgg 37 x v := rfl
theorem st104 (x v : Value) : Instr.storeAt 104 x v = storeAgg 104 x v := rfl

theorem loadAgg_run {P : Program} {w : World} {ty : TypeId} {g off : Nat} (cs : List Value) {d : TypeDesc} (hu : P.underlying ty = some d)
    (hd : (match d with | .struct _ | .array _ _ => true | _ => false) = true) (hi : (P.info? ty).map (·.size) = some cs.length)
    (h : ∀ j v, cs[j]? = some v → w.cell? ⟨g, off + j, none⟩ = some v) : (loadAgg ty (.pointer (some ⟨g, off, none⟩))).run P w = .ok (.agg cs.toArray) w := by
  have hl : (loadCells ⟨g, off, none⟩ cs.length).run P w = .ok cs.toArray w :=
    run_loadCells_list (P := P) w ⟨g, off, none⟩ cs (fun j v hv => by
      have hadd : (⟨g, off, none⟩ : Addr).add j = ⟨g, off + j, none⟩ := by unfold Addr.add; split <;> simp_all
      rw [hadd]; exact h j v hv)
  cases hq : P.info? ty with
  | none => simp [hq] at hi
  | some i =>
    have hs : i.size = cs.length := by simpa [hq] using hi
    have hagg : (isAgg ty).run P w = .ok true w := by
      unfold isAgg
      rw [Sem.run_bind, run_underlying hu w]
      cases d <;> simp_all
    simp [loadAgg, Instr.loadAt, Instr.sureAddr, loadVar, Sem.run_bind, hagg, sizeOf, typeInfo, hq, hs, hl]
theorem storeAgg_run {P : Program} {w : World} {ty t : TypeId} {g off : Nat} {cur : List Value} (vs : Array Value) (hg : Blk w g t cur.toArray)
    (hi : (P.info? ty).map (·.size) = some vs.size) (hfit : off + vs.size ≤ cur.length) (h1 : vs.all (·.oneCell') = true) :
    (storeAgg ty (.pointer (some ⟨g, off, none⟩)) (.agg vs)).run P w = .ok () (w.setRow g (cur.take off ++ vs.toList ++ cur.drop (off + vs.size)).toArray) := by
  have h := run_storeCells_at (P := P) g off t vs.toList 0 cur.toArray w hg (by simpa using hfit) (fun v hv => (Array.all_eq_true_iff_forall_mem.1 h1) v (by simpa using hv))
  cases hq : P.info? ty with
  | none => simp [hq] at hi
  | some i =>
    have hs : vs.size = i.size := by simp [hq] at hi; omega
    simp [storeAgg, Instr.storeAt, Instr.sureAddr, storeVar, sizeOf, typeInfo, hq, Value.cells, hs] at h ⊢
    simpa [hs] using h
end Go.Proofs.YtediocpdpghbfaaDoor
