/- The words of SHA-256: the rotations of the program and of the reference return one and the same number, for every word and every count from 1 to 31. Words for memory: a block that is known whole; arrays of words and of bytes as lists of numbers. SHA-256 as plain functions on lists of numbers. No program in sight. schedule one round of the compression Compress The reference's Compress returns what the program's Compress returns. SHA-256 of a whole message, as plain functions on lists of numbers. No program in sight. padding, Pad A hash in memory; New, Len, Clone Write Sum -/
import Derived.Test.YtediocpdpghbfaaDoorProg
import Derived.WalkKit
import Derived.WalkLawsBesides
import Derived.WalkSpells
import Derived.Deep.QuietTactic
import Derived.BigQuiet
import Derived.Lib.Hide
import Derived.Outline
import Derived.Below
import Derived.Laws.OwnMore
import Derived.Deep.Draws
import Derived.Deep.AppendLies
import Derived.Laws.Rows
import Derived.Laws.CopyRow
import Derived.Laws.CopyOwn
import Derived.Laws.MakeOwn
import Derived.Deep.LoopGhost
import Derived.Deep.DeepFit
import Derived.RegionTactic
import Derived.Deep.RegionWith
set_option linter.unusedSimpArgs false
set_option linter.unusedVariables false
namespace Go.Proofs.YtediocpdpghbfaaDoor
open Go Go.RowKit

theorem shift_count : ∀ k : Fin 32, 1 ≤ k.val → bits BinOp.and IntKind.u64 (IntKind.u64.wrap (-(k.val : Int))) 31 = ((32 - k.val : Nat) : Int) := by decide +kernel

theorem ofInt_u32 (a : Nat) (ha : a < 4294967296) : (BitVec.ofInt 32 (a : Int)).toNat = a := by
  rw [BitVec.ofInt_natCast, BitVec.toNat_ofNat]; exact Nat.mod_eq_of_lt (by omega)
theorem wrap_u32 (n : Int) : IntKind.u32.wrap n = n % 4294967296 := by simp [IntKind.wrap, IntKind.bits, IntKind.signed]
theorem bits_or_u32 (a b : Nat) (ha : a < 4294967296) (hb : b < 4294967296) : bits .or .u32 (a : Int) (b : Int) = ((a ||| b : Nat) : Int) := by
  have hx : a ||| b < 2 ^ 32 := Nat.or_lt_two_pow (by omega) (by omega)
  show IntKind.u32.wrap ((BitVec.ofInt 32 (a : Int) ||| BitVec.ofInt 32 (b : Int)).toNat : Int) = _
  rw [BitVec.toNat_or, ofInt_u32 a ha, ofInt_u32 b hb, wrap_u32]; omega
theorem bits_xor_u32 (a b : Nat) (ha : a < 4294967296) (hb : b < 4294967296) : bits .xor .u32 (a : Int) (b : Int) = ((a ^^^ b : Nat) : Int) := by
  have hx : a ^^^ b < 2 ^ 32 := Nat.xor_lt_two_pow (by omega) (by omega)
  show IntKind.u32.wrap ((BitVec.ofInt 32 (a : Int) ^^^ BitVec.ofInt 32 (b : Int)).toNat : Int) = _
  rw [BitVec.toNat_xor, ofInt_u32 a ha, ofInt_u32 b hb, wrap_u32]; omega
theorem bits_and_u32 (a b : Nat) (ha : a < 4294967296) (hb : b < 4294967296) : bits .and .u32 (a : Int) (b : Int) = ((a &&& b : Nat) : Int) := by
  have hx : a &&& b < 2 ^ 32 := Nat.and_lt_two_pow _ (by omega)
  show IntKind.u32.wrap ((BitVec.ofInt 32 (a : Int) &&& BitVec.ofInt 32 (b : Int)).toNat : Int) = _
  rw [BitVec.toNat_and, ofInt_u32 a ha, ofInt_u32 b hb, wrap_u32]; omega

/-- the word x turned right by k places -/
def rotr (x k : Nat) : Nat := (x / 2 ^ k) ||| (x * 2 ^ (32 - k) % 4294967296)
theorem rotr_lt (x k : Nat) (hx : x < 4294967296) : rotr x k < 4294967296 := by
  have h1 : x / 2 ^ k < 2 ^ 32 := Nat.lt_of_le_of_lt (Nat.div_le_self _ _) (by omega)
  have h2 : x * 2 ^ (32 - k) % 4294967296 < 2 ^ 32 := Nat.mod_lt _ (by omega)
  exact Nat.or_lt_two_pow h1 h2

theorem rot_int (x k s : Nat) (hx : x < 4294967296) (hs : s = 32 - k) (hk : 1 ≤ k ∧ k ≤ 31) :
    bits BinOp.or IntKind.u32 ((x : Int) * 2 ^ s % 4294967296) ((x : Int) / 2 ^ (32 - s)) = (rotr x k : Int) := by
  subst hs
  have e1 : ((x : Int) * 2 ^ (32 - k) % 4294967296) = ((x * 2 ^ (32 - k) % 4294967296 : Nat) : Int) := by
    rw [Int.natCast_emod, Int.natCast_mul, Int.natCast_pow]; rfl
  have e2 : ((x : Int) / 2 ^ (32 - (32 - k))) = ((x / 2 ^ k : Nat) : Int) := by
    rw [show 32 - (32 - k) = k by omega, Int.natCast_ediv, Int.natCast_pow]; rfl
  rw [e1, e2, bits_or_u32 _ _ (Nat.mod_lt _ (by omega)) (Nat.lt_of_le_of_lt (Nat.div_le_self _ _) hx), Nat.or_comm]
  rfl

theorem rotl_any (x : Nat) (k : Int) (hx : x < 4294967296) (hk : 1 ≤ k ∧ k ≤ 31) (w : World) :
    Calls Tryd.prog 90 #[.int .u32 x, .int .i64 (-k)] w fun e w' => e = .returned (.int .u32 (rotr x k.toNat)) ∧ w = w' := by
  obtain ⟨k, rfl⟩ := Int.eq_ofNat_of_zero_le (show 0 ≤ k by omega)
  have hc := shift_count ⟨k, by omega⟩ (by simp; omega)
  simp only at hc
  obtain ⟨s, hs⟩ : ∃ s, s = 32 - k := ⟨_, rfl⟩
  rw [← hs] at hc
  have : 1 ≤ s ∧ s ≤ 31 := by omega
  have h0 : (0:Int) ≤ s := by omega
  have h32 : (s:Int) ≤ 31 := by omega
  have HS := Lib.hid hs; clear hs
  go_enter Tryd.func90, Tryd.ntmps90
  go_wp2
  go_ret
  refine ⟨?_, rfl⟩
  rw [Int.toNat_natCast, ← rot_int x k s hx HS.out (by omega)]
  rfl

theorem rotr_any (x : Nat) (k : Int) (hx : x < 4294967296) (hk : 1 ≤ k ∧ k ≤ 31) (w : World) :
    Calls Tryd.prog 69 #[.int .u32 x, .int .i64 k] w fun e w' => e = .returned (.int .u32 (rotr x k.toNat)) ∧ ∃ n, w' = w.drewN n := by
  obtain ⟨k, rfl⟩ := Int.eq_ofNat_of_zero_le (show 0 ≤ k by omega)
  go_enter Tryd.func69, Tryd.ntmps69
  go_wp2
  go_quiet (fail)
  go_wp2
  go_ret
  refine ⟨?_, _, rfl⟩
  have e1 : ((x : Int) * 2 ^ (32 - k) % 4294967296) = ((x * 2 ^ (32 - k) % 4294967296 : Nat) : Int) := by
    rw [Int.natCast_emod, Int.natCast_mul, Int.natCast_pow]; rfl
  have e2 : ((x : Int) / 2 ^ k) = ((x / 2 ^ k : Nat) : Int) := by
    rw [Int.natCast_ediv, Int.natCast_pow]; rfl
  have h : bits BinOp.or IntKind.u32 ((x : Int) / 2 ^ k) ((x : Int) * 2 ^ (32 - k) % 4294967296) = (rotr x k : Int) := by
    rw [e1, e2, bits_or_u32 _ _ (Nat.lt_of_le_of_lt (Nat.div_le_self _ _) hx) (Nat.mod_lt _ (by omega))]
    rfl
  rw [Int.toNat_natCast, ← h]
  rfl

theorem rotate_any (x : Nat) (i j k : Int) (hx : x < 4294967296) (hi : 1 ≤ i ∧ i ≤ 31) (hj : 1 ≤ j ∧ j ≤ 31) (hk : 1 ≤ k ∧ k ≤ 31) (w : World) :
    Calls Tryd.prog 67 #[.int .u32 x, .int .i64 i, .int .i64 j, .int .i64 k] w fun e w' => e = .returned (.int .u32 ((rotr x i.toNat ^^^ rotr x j.toNat ^^^ rotr x k.toNat : Nat) : Int)) ∧ w = w' := by
  have b1 := bits_xor_u32 _ _ (rotr_lt x i.toNat hx) (rotr_lt x j.toNat hx)
  have l1 : rotr x i.toNat ^^^ rotr x j.toNat < 4294967296 := Nat.xor_lt_two_pow (n := 32) (rotr_lt x i.toNat hx) (rotr_lt x j.toNat hx)
  have b2 := bits_xor_u32 _ _ l1 (rotr_lt x k.toNat hx)
  have B := Lib.hid (And.intro b1 b2); clear b1 b2 l1
  go_enter Tryd.func67, Tryd.ntmps67
  go_wp2_with fail
  refine (rotl_any x i hx hi _).mono ?_; rintro e w' ⟨rfl, rfl⟩
  go_wp2_with fail
  refine (rotl_any x j hx hj _).mono ?_; rintro e w' ⟨rfl, rfl⟩
  go_wp2_with fail
  refine (rotl_any x k hx hk _).mono ?_; rintro e w' ⟨rfl, rfl⟩
  go_wp2_with fail
  go_ret
  refine ⟨?_, rfl⟩
  rw [← B.out.2, ← B.out.1]
  rfl
end Go.Proofs.YtediocpdpghbfaaDoor
namespace Go.Proofs.YtediocpdpghbfaaDoor
open Go Go.RowKit

theorem addr_add (g off j : Nat) : (⟨g, off, none⟩ : Addr).add j = ⟨g, off + j, none⟩ := by unfold Addr.add; split <;> simp_all
/-- block g is just the cells cs of element type t, none frozen -/
def Blk (w : World) (g : Nat) (t : TypeId) (cs : Array Value) : Prop := w.heap[g]? = some (.cells cs t (0, 0))

section
variable {w w' : World} {g : Nat} {t : TypeId} {cs : Array Value}
theorem Blk.lt (h : Blk w g t cs) : g < w.heap.size := by
  rcases Nat.lt_or_ge g w.heap.size with hlt | hge
  · exact hlt
  · unfold Blk at h; rw [Array.getElem?_eq_none hge] at h; cases h
theorem Blk.cell (h : Blk w g t cs) (i : Nat) : w.cell? ⟨g, i, none⟩ = cs[i]? := cell_of_row w g i cs t (0, 0) h
theorem Blk.frozen (h : Blk w g t cs) (i : Nat) : w.frozen? ⟨g, i, none⟩ = false := by
  unfold Blk at h
  simp [World.frozen?, h]
theorem Blk.new (w : World) (t : TypeId) (cs : Array Value) : Blk (w.alloc (.cells cs t)) w.heap.size t cs := heap_alloc_new w _
theorem size1 (w : World) (o : Obj) : (w.alloc o).heap.size = w.heap.size + 1 := by simp
theorem Blk.new1 (w : World) (o : Obj) (t : TypeId) (cs : Array Value) : Blk ((w.alloc o).alloc (.cells cs t)) (w.heap.size + 1) t cs := by
  have h := Blk.new (w.alloc o) t cs; rwa [size1] at h
theorem Blk.new2 (w : World) (o o' : Obj) (t : TypeId) (cs : Array Value) : Blk (((w.alloc o).alloc o').alloc (.cells cs t)) (w.heap.size + 1 + 1) t cs := by
  have h := Blk.new1 (w.alloc o) o' t cs; rwa [size1] at h
theorem Blk.new3 (w : World) (o o' o'' : Obj) (t : TypeId) (cs : Array Value) : Blk ((((w.alloc o).alloc o').alloc o'').alloc (.cells cs t)) (w.heap.size + 1 + 1 + 1) t cs := by
  have h := Blk.new2 (w.alloc o) o' o'' t cs; rwa [size1] at h
theorem Blk.drew (h : Blk w g t cs) : Blk w.drew g t cs := h
theorem Blk.drewN (h : Blk w g t cs) (n : Nat) : Blk (w.drewN n) g t cs := h
theorem Blk.alloc (h : Blk w g t cs) (o : Obj) : Blk (w.alloc o) g t cs := (Below.heap_alloc w o g h.lt).trans h
theorem Blk.set_ (h : Blk w g t cs) (i : Nat) (u : Value) : Blk (w.setCell ⟨g, i, none⟩ u) g t (cs.setIfInBounds i u) := by
  unfold Blk at h ⊢
  simp [World.setCell, Array.getElem?_modify, h]
theorem Blk.far (h : Blk w g t cs) {p : Addr} (hp : g ≠ p.block) (u : Value) : Blk (w.setCell p u) g t cs := (Below.heap_setCell w p u g hp).trans h
theorem Blk.below {B : Nat} (h : Blk w g t cs) (hb : Below B w w') (hg : g < B) : Blk w' g t cs := (hb.block g hg).trans h
theorem Blk.grown {row : Option Nat} (h : Blk w g t cs) (hb : w.grownBy w' row) (hg : some g ≠ row) : Blk w' g t cs := (hb.block g h.lt hg).trans h
end

theorem Blk.setRow {w : World} {g : Nat} {t : TypeId} {old : Array Value} (h : Blk w g t old) (cs : Array Value) : Blk (w.setRow g cs) g t cs := setRow_heap w g old cs t (0, 0) h
theorem Blk.farRow {w : World} {g k : Nat} {t : TypeId} {cs : Array Value} (h : Blk w g t cs) (hk : g ≠ k) (cs' : Array Value) : Blk (w.setRow k cs') g t cs := (setRow_other w k g cs' hk).trans h
theorem below_setRow' {B g : Nat} {w0 w : World} (hb : Below B w0 w) (hBg : B ≤ g) (cs : Array Value) : Below B w0 (w.setRow g cs) :=
  hb.trans ⟨rfl, rfl, rfl, by simp, fun k hk => setRow_other w g k cs (by omega)⟩
theorem grown_drewN {a w : World} {row : Option Nat} (h : a.grownBy w row) (n : Nat) : a.grownBy (w.drewN n) row := ⟨h.os, h.tape, h.output, h.size, h.block⟩
theorem grown_setRow {a w : World} {g : Nat} (h : a.grownBy w (some g)) (cs : Array Value) : a.grownBy (w.setRow g cs) (some g) :=
  ⟨h.os, h.tape, h.output, by simpa using h.size, fun i hi hne => (setRow_other w g i cs (fun e => hne (by rw [e]))).trans (h.block i hi hne)⟩
theorem grown_setCell {a w : World} {g : Nat} (h : a.grownBy w (some g)) (i : Nat) (u : Value) : a.grownBy (w.setCell ⟨g, i, none⟩ u) (some g) :=
  ⟨h.os, h.tape, h.output, by simpa [World.setCell] using h.size, fun k hi hne => (Below.heap_setCell w _ u k (fun e => hne (by rw [e]))).trans (h.block k hi hne)⟩
theorem grown_alloc {a w : World} {row : Option Nat} (h : a.grownBy w row) (o : Obj) : a.grownBy (w.alloc o) row :=
  ⟨h.os, h.tape, h.output, Nat.le_trans h.size (by simp), fun i hi hne => (Below.heap_alloc w o i (Nat.lt_of_lt_of_le hi h.size)).trans (h.block i hi hne)⟩
theorem grown_below {a w w' : World} {row : Option Nat} (h : a.grownBy w row) {B : Nat} (hb : Below B w w') (hB : a.heap.size ≤ B) : a.grownBy w' row :=
  ⟨hb.os.trans h.os, hb.tape.trans h.tape, hb.output.trans h.output, Nat.le_trans h.size hb.size, fun i hi hne => (hb.block i (by omega)).trans (h.block i hi hne)⟩
theorem grown_trans {a b c : World} {row : Option Nat} (h : a.grownBy b row) (k : b.grownBy c row) : a.grownBy c row :=
  ⟨k.os.trans h.os, k.tape.trans h.tape, k.output.trans h.output, Nat.le_trans h.size k.size, fun i hi hne => (k.block i (Nat.lt_of_lt_of_le hi h.size) hne).trans (h.block i hi hne)⟩
theorem below_drewN {B : Nat} {a w : World} (h : Below B a w) (n : Nat) : Below B a (w.drewN n) := ⟨h.os, h.tape, h.output, h.size, h.block⟩

/-- an array of words; an array of bytes -/
def u32s (l : List Nat) : Array Value := (l.map fun n : Nat => Value.int .u32 (n : Int)).toArray
def u8s (l : List Nat) : Array Value := (l.map fun n : Nat => Value.int .u8 (n : Int)).toArray
theorem u32s_one (l : List Nat) : (u32s l).all (·.oneCell') = true := by simp [u32s, Value.oneCell']
theorem u8s_one (l : List Nat) : (u8s l).all (·.oneCell') = true := by simp [u8s, Value.oneCell']
theorem u32s_size (l : List Nat) : (u32s l).size = l.length := by simp [u32s]
theorem u8s_size (l : List Nat) : (u8s l).size = l.length := by simp [u8s]
theorem u32s_at (l : List Nat) (i : Nat) (h : i < l.length) : (u32s l)[i]? = some (.int .u32 (l.getD i 0 : Nat)) := by
  simp [u32s, List.getElem?_eq_getElem h, List.getD_eq_getElem?_getD]
theorem u8s_at (l : List Nat) (i : Nat) (h : i < l.length) : (u8s l)[i]? = some (.int .u8 (l.getD i 0 : Nat)) := by
  simp [u8s, List.getElem?_eq_getElem h, List.getD_eq_getElem?_getD]
theorem u32s_set (l : List Nat) (i n : Nat) : (u32s l).setIfInBounds i (.int .u32 (n : Int)) = u32s (l.set i n) := by
  simp [u32s, List.map_set]
theorem u8s_set (l : List Nat) (i n : Nat) : (u8s l).setIfInBounds i (.int .u8 (n : Int)) = u8s (l.set i n) := by
  simp [u8s, List.map_set]
section
variable {w : World} {g : Nat} {t : TypeId} {l : List Nat}
theorem Blk.u32 (h : Blk w g t (u32s l)) {i : Nat} (hi : i < l.length) : w.cell? ⟨g, i, none⟩ = some (.int .u32 (l.getD i 0 : Nat)) := (h.cell i).trans (u32s_at l i hi)
theorem Blk.u8 (h : Blk w g t (u8s l)) {i : Nat} (hi : i < l.length) : w.cell? ⟨g, i, none⟩ = some (.int .u8 (l.getD i 0 : Nat)) := (h.cell i).trans (u8s_at l i hi)
end
section
variable {w : World} {g : Nat} {t : TypeId} {l l' : List Nat}
theorem Blk.set32 (h : Blk w g t (u32s l)) (i x : Nat) (hl : l.set i x = l') : Blk (w.setCell ⟨g, i, none⟩ (.int .u32 (x : Int))) g t (u32s l') := by
  have := h.set_ i (.int .u32 (x : Int)); rwa [u32s_set, hl] at this
theorem Blk.set8 (h : Blk w g t (u8s l)) (i x : Nat) (hl : l.set i x = l') : Blk (w.setCell ⟨g, i, none⟩ (.int .u8 (x : Int))) g t (u8s l') := by
  have := h.set_ i (.int .u8 (x : Int)); rwa [u8s_set, hl] at this
end

/-! ### loads and stores of whole arrays and structs, behind names of their own, so that the walk does not take them cell by cell -/
def loadAgg (ty : TypeId) (x : Value) : Sem Value := Instr.loadAt ty x
def storeAgg (ty : TypeId) (x v : Value) : Sem Unit := Instr.storeAt ty x v
theorem ld24 (x : Value) : Instr.loadAt 24 x = loadAgg 24 x := rfl
theorem ld25 (x : Value) : Instr.loadAt 25 x = loadAgg 25 x := rfl
theorem ld29 (x : Value) : Instr.loadAt 29 x = loadAgg 29 x := rfl
theorem ld30 (x : Value) : Instr.loadAt 30 x = loadAgg 30 x := rfl
theorem ld32 (x : Value) : Instr.loadAt 32 x = loadAgg 32 x := rfl
theorem ld37 (x : Value) : Instr.loadAt 37 x = loadAgg 37 x := rfl
theorem ld104 (x : Value) : Instr.loadAt 104 x = loadAgg 104 x := rfl
theorem st24 (x v : Value) : Instr.storeAt 24 x v = storeAgg 24 x v := rfl
theorem st25 (x v : Value) : Instr.storeAt 25 x v = storeAgg 25 x v := rfl
theorem st29 (x v : Value) : Instr.storeAt 29 x v = storeAgg 29 x v := rfl
theorem st30 (x v : Value) : Instr.storeAt 30 x v = storeAgg 30 x v := rfl
theorem st32 (x v : Value) : Instr.storeAt 32 x v = storeAgg 32 x v := rfl
theorem st37 (x v : Value) : Instr.storeAt 37 x v = storeAgg 37 x v := rfl
theorem st104 (x v : Value) : Instr.storeAt 104 x v = storeAgg 104 x v := rfl

theorem loadAgg_run {P : Program} {w : World} {ty : TypeId} {g off : Nat} (cs : List Value) {d : TypeDesc} (hu : P.underlying ty = some d)
    (hd : (match d with | .struct _ | .array _ _ => true | _ => false) = true) (hi : (P.info? ty).map (·.size) = some cs.length)
    (h : ∀ j v, cs[j]? = some v → w.cell? ⟨g, off + j, none⟩ = some v) : (loadAgg ty (.pointer (some ⟨g, off, none⟩))).run P w = .ok (.agg cs.toArray) w := by
  have hl : (loadCells ⟨g, off, none⟩ cs.length).run P w = .ok cs.toArray w :=
    run_loadCells_list (P := P) w ⟨g, off, none⟩ cs (fun j v hv => by
      have hadd : (⟨g, off, none⟩ : Addr).add j = ⟨g, off + j, none⟩ := by unfold Addr.add; split <;> simp_all
      rw [hadd]; exact h j v hv)
  cases hq : P.info? ty with
  | none => simp [hq] at hi
  | some i =>
    have hs : i.size = cs.length := by simpa [hq] using hi
    have hagg : (isAgg ty).run P w = .ok true w := by
      unfold isAgg
      rw [Sem.run_bind, run_underlying hu w]
      cases d <;> simp_all
    simp [loadAgg, Instr.loadAt, Instr.sureAddr, loadVar, Sem.run_bind, hagg, sizeOf, typeInfo, hq, hs, hl]
theorem storeAgg_run {P : Program} {w : World} {ty t : TypeId} {g off : Nat} {cur : List Value} (vs : Array Value) (hg : Blk w g t cur.toArray)
    (hi : (P.info? ty).map (·.size) = some vs.size) (hfit : off + vs.size ≤ cur.length) (h1 : vs.all (·.oneCell') = true) :
    (storeAgg ty (.pointer (some ⟨g, off, none⟩)) (.agg vs)).run P w = .ok () (w.setRow g (cur.take off ++ vs.toList ++ cur.drop (off + vs.size)).toArray) := by
  have h := run_storeCells_at (P := P) g off t vs.toList 0 cur.toArray w hg (by simpa using hfit) (fun v hv => (Array.all_eq_true_iff_forall_mem.1 h1) v (by simpa using hv))
  cases hq : P.info? ty with
  | none => simp [hq] at hi
  | some i =>
    have hs : vs.size = i.size := by simp [hq] at hi; omega
    simp [storeAgg, Instr.storeAt, Instr.sureAddr, storeVar, sizeOf, typeInfo, hq, Value.cells, hs] at h ⊢
    simpa [hs] using h
end Go.Proofs.YtediocpdpghbfaaDoor
namespace Go.Proofs.YtediocpdpghbfaaDoor

/-- the number that the first j bytes of word i spell -/
def part (b : List Nat) (i : Nat) : Nat → Nat
  | 0 => 0
  | j + 1 => part b i j * 256 + b.getD (4 * i + j) 0
def word (b : List Nat) (i : Nat) : Nat := part b i 4
def s0 (x : Nat) : Nat := rotr x 7 ^^^ rotr x 18 ^^^ (x / 8)
def s1 (x : Nat) : Nat := rotr x 17 ^^^ rotr x 19 ^^^ (x / 1024)
def words (b : List Nat) (n : Nat) : List Nat := (List.range n).map (word b)
/-- the next word of the message schedule -/
def nextW (l : List Nat) : Nat := (s1 (l.getD (l.length - 2) 0) + l.getD (l.length - 7) 0 + s0 (l.getD (l.length - 15) 0) + l.getD (l.length - 16) 0) % 4294967296
def ext (l : List Nat) : Nat → List Nat
  | 0 => l
  | n + 1 => ext l n ++ [nextW (ext l n)]
def sched (b : List Nat) : List Nat := ext (words b 16) 48

/-- bytes -/
def Bytes (b : List Nat) : Prop := ∀ i, b.getD i 0 < 256
def Words (b : List Nat) : Prop := ∀ i, b.getD i 0 < 4294967296

theorem part_lt (b : List Nat) (hb : Bytes b) (i j : Nat) : part b i j < 256 ^ j := by
  induction j with
  | zero => simp [part]
  | succ j ih =>
    have := hb (4 * i + j)
    rw [part, Nat.pow_succ]
    omega
theorem word_lt (b : List Nat) (hb : Bytes b) (i : Nat) : word b i < 4294967296 := part_lt b hb i 4
theorem words_length (b : List Nat) (n : Nat) : (words b n).length = n := by simp [words]
theorem words_succ (b : List Nat) (n : Nat) : words b (n + 1) = words b n ++ [word b n] := by simp [words, List.range_succ]
theorem ext_length (l : List Nat) (n : Nat) : (ext l n).length = l.length + n := by
  induction n with
  | zero => rfl
  | succ n ih => simp [ext, ih]; omega
theorem sched_length (b : List Nat) : (sched b).length = 64 := by simp [sched, ext_length, words_length]

theorem words_of_mem {l : List Nat} (h : ∀ x ∈ l, x < 4294967296) : Words l := by
  intro i
  rcases Nat.lt_or_ge i l.length with hi | hi
  · rw [List.getD_eq_getElem?_getD, List.getElem?_eq_getElem hi]; exact h _ (List.getElem_mem hi)
  · rw [List.getD_eq_getElem?_getD, List.getElem?_eq_none hi]; simp
theorem mem_of_words {l : List Nat} (h : Words l) : ∀ x ∈ l, x < 4294967296 := by
  intro x hx
  obtain ⟨i, hi, rfl⟩ := List.getElem_of_mem hx
  have := h i
  rwa [List.getD_eq_getElem?_getD, List.getElem?_eq_getElem hi] at this
theorem words_words (b : List Nat) (hb : Bytes b) (n : Nat) : Words (words b n) := by
  refine words_of_mem fun x hx => ?_
  simp only [words, List.mem_map] at hx
  obtain ⟨i, _, rfl⟩ := hx
  exact word_lt b hb i
theorem nextW_lt (l : List Nat) : nextW l < 4294967296 := Nat.mod_lt _ (by omega)
theorem words_ext (l : List Nat) (h : Words l) (n : Nat) : Words (ext l n) := by
  induction n with
  | zero => exact h
  | succ n ih =>
    refine words_of_mem fun x hx => ?_
    simp only [ext, List.mem_append, List.mem_singleton] at hx
    rcases hx with hx | rfl
    · exact mem_of_words ih x hx
    · exact nextW_lt _

/-! ### the array in which the schedule grows -/
/-- the list l, filled up with zeros to 64 -/
def pad64 (l : List Nat) : List Nat := l ++ List.replicate (64 - l.length) 0
theorem pad64_length (l : List Nat) (h : l.length ≤ 64) : (pad64 l).length = 64 := by simp [pad64]; omega
theorem pad64_getD (l : List Nat) (i : Nat) (h : i < l.length) : (pad64 l).getD i 0 = l.getD i 0 := by
  simp only [pad64, List.getD_eq_getElem?_getD, List.getElem?_append_left h]
theorem pad64_set (l : List Nat) (x : Nat) (h : l.length < 64) : (pad64 l).set l.length x = pad64 (l ++ [x]) := by
  obtain ⟨k, hk⟩ : ∃ k, 64 - l.length = k + 1 := ⟨63 - l.length, by omega⟩
  have hk' : 64 - (l ++ [x]).length = k := by simp; omega
  rw [pad64, pad64, hk, hk', List.replicate_succ, List.set_append_right _ _ (Nat.le_refl _)]
  simp
theorem pad64_full (l : List Nat) (h : l.length = 64) : pad64 l = l := by simp [pad64, h]
theorem set_same (l : List Nat) (i x y : Nat) : (l.set i x).set i y = l.set i y := by simp

/-! ### the compression -/
def big0 (a : Nat) : Nat := rotr a 2 ^^^ rotr a 13 ^^^ rotr a 22
def big1 (e : Nat) : Nat := rotr e 6 ^^^ rotr e 11 ^^^ rotr e 25
def ch (e f g : Nat) : Nat := (e &&& f) ^^^ ((4294967295 - e) &&& g)
def maj (a b c : Nat) : Nat := (a &&& b) ^^^ (a &&& c) ^^^ (b &&& c)
def t1 (s : List Nat) (k w : Nat) : Nat := (s.getD 7 0 + big1 (s.getD 4 0) + ch (s.getD 4 0) (s.getD 5 0) (s.getD 6 0) + k + w) % 4294967296
def t2 (s : List Nat) : Nat := (big0 (s.getD 0 0) + maj (s.getD 0 0) (s.getD 1 0) (s.getD 2 0)) % 4294967296
def rnd (s : List Nat) (k w : Nat) : List Nat :=
  [(t1 s k w + t2 s) % 4294967296, s.getD 0 0, s.getD 1 0, s.getD 2 0, (s.getD 3 0 + t1 s k w) % 4294967296, s.getD 4 0, s.getD 5 0, s.getD 6 0]
/-- the state behind n rounds -/
def rnds (K W s : List Nat) : Nat → List Nat
  | 0 => s
  | n + 1 => rnd (rnds K W s n) (K.getD n 0) (W.getD n 0)
def addUp (v s : List Nat) : List Nat := (List.range 8).map fun i => (v.getD i 0 + s.getD i 0) % 4294967296
def compress (K s b : List Nat) : List Nat := addUp (rnds K (sched b) s 64) s
end Go.Proofs.YtediocpdpghbfaaDoor
namespace Go.Proofs.YtediocpdpghbfaaDoor
open Go Go.RowKit

theorem shl8_or (p c : Nat) (hp : p < 16777216) (hc : c < 256) :
    bits .or .u32 ((p : Int) * 256) (c : Int) = ((p * 256 + c : Nat) : Int) := by
  have e1 : ((p : Int) * 256) = ((p * 256 : Nat) : Int) := by omega
  rw [e1, bits_or_u32 _ _ (by omega) (by omega)]
  have := Nat.two_pow_add_eq_or_of_lt (i := 8) (show c < 2 ^ 8 by omega) p
  rw [show p * 256 = 2 ^ 8 * p by omega, this]

theorem zeros64 (w : World) : Blk (w.alloc (.cells #[] 29)) w.heap.size 29 (u32s []) := Blk.new _ _ _

theorem s0_lt (x : Nat) (h : x < 4294967296) : s0 x < 4294967296 :=
  Nat.xor_lt_two_pow (n := 32) (Nat.xor_lt_two_pow (n := 32) (rotr_lt x 7 h) (rotr_lt x 18 h)) (by omega)
theorem s1_lt (x : Nat) (h : x < 4294967296) : s1 x < 4294967296 :=
  Nat.xor_lt_two_pow (n := 32) (Nat.xor_lt_two_pow (n := 32) (rotr_lt x 17 h) (rotr_lt x 19 h)) (by omega)
theorem s0_walk (x : Nat) (h : x < 4294967296) : bits .xor .u32 (bits .xor .u32 (rotr x 7 : Nat) (rotr x 18 : Nat)) ((x : Int) / 8) = (s0 x : Nat) := by
  have e : ((x : Int) / 8) = ((x / 8 : Nat) : Int) := by omega
  rw [e, bits_xor_u32 _ _ (rotr_lt x 7 h) (rotr_lt x 18 h), bits_xor_u32 _ _ (Nat.xor_lt_two_pow (n := 32) (rotr_lt x 7 h) (rotr_lt x 18 h)) (by omega)]
  rfl
theorem s1_walk (x : Nat) (h : x < 4294967296) : bits .xor .u32 (bits .xor .u32 (rotr x 17 : Nat) (rotr x 19 : Nat)) ((x : Int) / 1024) = (s1 x : Nat) := by
  have e : ((x : Int) / 1024) = ((x / 1024 : Nat) : Int) := by omega
  rw [e, bits_xor_u32 _ _ (rotr_lt x 17 h) (rotr_lt x 19 h), bits_xor_u32 _ _ (Nat.xor_lt_two_pow (n := 32) (rotr_lt x 17 h) (rotr_lt x 19 h)) (by omega)]
  rfl
theorem size29 (l : List Nat) (h : l.length = 64) : (Tryd.prog.info? 29).map (·.size) = some (u32s l).size := by
  rw [u32s_size, h]; kernel_rfl
theorem getD_set_same (l : List Nat) (i x : Nat) (h : i < l.length) : (l.set i x).getD i 0 = x := by
  simp [List.getD_eq_getElem?_getD, h]
theorem set_zero (b : List Nat) (n : Nat) (h : n < 16) : (pad64 (words b n)).set n (part b n 0) = pad64 (words b n) := by
  have := pad64_set (words b n) 0 (by rw [words_length]; omega)
  rw [words_length] at this
  rw [part, this, pad64, pad64, List.length_append, words_length]
  obtain ⟨k, hk⟩ : ∃ k, 64 - n = k + 1 := ⟨63 - n, by omega⟩
  rw [hk, show 64 - (n + [0].length) = k by simp; omega, List.replicate_succ]
  simp
set_option maxRecDepth 100000 in
theorem sched_any (b : List Nat) (hb : b.length = 64) (hB : Bytes b) (w : World) :
    Calls Tryd.prog 68 #[.agg (u8s b)] w fun e w' => e = .returned (.agg (u32s (sched b))) ∧ Below w.heap.size w w' := by
  go_enter Tryd.func68, Tryd.ntmps68
  go_wp2
  go_loopg [12] 16 (fun k i wr => ∃ n : Nat, n + k = 16 ∧ i = .int .i64 n ∧ Blk wr w.heap.size 37 (u8s b) ∧ Blk wr (w.heap.size + 1 + 1) 29 (u32s (pad64 (words b n))) ∧
     Blk wr (w.heap.size + 1) 29 (u32s (pad64 [])) ∧ Below w.heap.size w wr)
  case atStart =>
    refine ⟨0, rfl, rfl, ?_, ?_, ?_, ?_⟩
    · exact ((Blk.new w _ _).alloc _).alloc _
    · exact Blk.new2 _ _ _ _ _
    · exact (Blk.new1 _ _ _ _).alloc _
    · exact (((Below.refl _ _).alloc (Nat.le_refl _) _).alloc (by simp) _).alloc (by simp; omega) _
  case round =>
    obtain ⟨n, hnk, rfl, hb1, hb3, hb2, hbel⟩ := hrel
    have HNK := Lib.hid hnk; clear hnk
    by_cases hlt : n < 16
    · have q0 : 0 ≤ 4 * (n : Int) := by omega
      have q1 : 4 * (n : Int) ≤ 4 * n + 4 := by omega
      have q2 : 4 * (n : Int) + 4 ≤ 64 := by omega
      obtain ⟨wo, rfl⟩ : ∃ wo : World, wo = wr := ⟨_, rfl⟩
      obtain ⟨ko, rfl⟩ : ∃ ko : Nat, ko = gk := ⟨_, rfl⟩
      go_wp2
      go_loopg [22] 4 (fun k j wi => ∃ m : Nat, m + k = 4 ∧ j = .int .i64 m ∧ Blk wi w.heap.size 37 (u8s b) ∧ Blk wi (w.heap.size + 1 + 1) 29 (u32s ((pad64 (words b n)).set n (part b n m))) ∧
        Blk wi (w.heap.size + 1) 29 (u32s (pad64 [])) ∧ Below w.heap.size w wi)
      case atStart =>
        refine ⟨0, rfl, rfl, hb1, ?_, hb2, hbel⟩
        rw [show (pad64 (words b n)).set n (part b n 0) = pad64 (words b n) from set_zero b n hlt]
        exact hb3
      case round =>
        obtain ⟨m, hmk, rfl, hc1, hc3, hc2, hcel⟩ := hrel
        have HMK := Lib.hid hmk; clear hmk hb1 hb2 hb3 hbel
        by_cases hm : m < 4
        · obtain ⟨c, hc⟩ : ∃ c, b.getD (4 * n + m) 0 = c := ⟨_, rfl⟩
          have c256 : c < 256 := by rw [← hc]; exact hB _
          have p24 : part b n m < 16777216 := Nat.lt_of_lt_of_le (part_lt b hB n m) (Nat.le_trans (Nat.pow_le_pow_right (by omega) (show m ≤ 3 by omega)) (by decide))
          have d1 := hc1.u8 (show 4 * n + m < b.length by omega)
          have d3 := hc3.u32 (i := n) (by rw [List.length_set, pad64_length _ (by rw [words_length]; omega)]; omega)
          have f3 := hc3.frozen n
          rw [hc] at d1
          rw [getD_set_same _ _ _ (by rw [pad64_length _ (by rw [words_length]; omega)]; omega)] at d3
          have hq : part b n (m + 1) = part b n m * 256 + c := by rw [part, hc]
          have e8 := shl8_or _ _ p24 c256
          rw [← hq] at e8
          generalize hp' : part b n (m + 1) = q at *
          generalize part b n m = p at *
          have HQ := Lib.hid hp'; clear hp' hq hc
          go_wp2
          go_roundg (gk - 1)
          case measure => have := HMK.out; omega
          case rel =>
            refine ⟨m + 1, by have := HMK.out; omega, by go_num, hc1.far (by simp; omega) _, ?_, hc2.far (by simp) _, hcel.setCell (by simp; omega) _⟩
            have := hc3.set_ n (.int .u32 (q : Int))
            rw [u32s_set, set_same] at this
            rw [HQ.out]
            exact this
        · obtain rfl : m = 4 := by have := HMK.out; omega
          clear hm
          go_wp2
          go_roundg (ko - 1)
          case measure => have := HNK.out; omega
          case rel =>
            refine ⟨n + 1, by have := HNK.out; omega, by go_num, hc1, ?_, hc2, hcel⟩
            have := pad64_set (words b n) (word b n) (by rw [words_length]; omega)
            rw [words_length] at this
            rw [words_succ, ← this]
            exact hc3
    · obtain rfl : n = 16 := by have := HNK.out; omega
      clear hlt
      go_wp2
      go_loopg [7] 48 (fun k j wi => ∃ t : Nat, t + k = 64 ∧ 16 ≤ t ∧ j = .int .i64 t ∧ Blk wi (w.heap.size + 1 + 1) 29 (u32s (pad64 (ext (words b 16) (t - 16)))) ∧
        Blk wi (w.heap.size + 1) 29 (u32s (pad64 [])) ∧ Below w.heap.size w wi)
      case atStart => exact ⟨16, rfl, Nat.le_refl _, rfl, hb3, hb2, hbel⟩
      case round =>
        obtain ⟨t, htk, ht16, rfl, hc3, hc2, hcel⟩ := hrel
        have HTK := Lib.hid htk; clear htk hb1 hb2 hb3 hbel
        by_cases ht : t < 64
        · have HL : (ext (words b 16) (t - 16)).length = t := by rw [ext_length, words_length]; omega
          have HW : Words (ext (words b 16) (t - 16)) := words_ext _ (words_words b hB 16) _
          generalize hL : ext (words b 16) (t - 16) = L at *
          have d15 := hc3.u32 (i := t - 15) (by rw [pad64_length _ (by omega)]; omega)
          have d2 := hc3.u32 (i := t - 2) (by rw [pad64_length _ (by omega)]; omega)
          have d7 := hc3.u32 (i := t - 7) (by rw [pad64_length _ (by omega)]; omega)
          have d16 := hc3.u32 (i := t - 16) (by rw [pad64_length _ (by omega)]; omega)
          have dt := hc3.u32 (i := t) (by rw [pad64_length _ (by omega)]; omega)
          have f3 := hc3.frozen t
          rw [pad64_getD _ _ (by omega)] at d15 d2 d7 d16
          have l15 := HW (t - 15); have l2 := HW (t - 2); have l7 := HW (t - 7); have l16 := HW (t - 16)
          have hn : nextW L = (s1 (L.getD (t - 2) 0) + L.getD (t - 7) 0 + s0 (L.getD (t - 15) 0) + L.getD (t - 16) 0) % 4294967296 := by rw [nextW, HL]
          generalize (pad64 L).getD t 0 = xt at *
          generalize L.getD (t - 15) 0 = x15 at *
          generalize L.getD (t - 2) 0 = x2 at *
          generalize L.getD (t - 7) 0 = x7 at *
          generalize L.getD (t - 16) 0 = x16 at *
          have e0 := s0_walk x15 l15
          have e1 := s1_walk x2 l2
          have k0 := s0_lt x15 l15
          have k1 := s1_lt x2 l2
          generalize s0 x15 = y0 at *
          generalize s1 x2 = y1 at *
          have HN := Lib.hid (And.intro hn (And.intro HL hL)); clear hn HL hL HW
          go_wp2_with fail
          go_quiet (fail)
          go_wp2_with fail
          refine (rotl_any x15 7 l15 (by omega) _).mono ?_; rintro e w' ⟨rfl, rfl⟩
          go_wp2_with fail
          refine (rotl_any x15 18 l15 (by omega) _).mono ?_; rintro e w' ⟨rfl, rfl⟩
          go_wp2_with fail
          refine (rotl_any x2 17 l2 (by omega) _).mono ?_; rintro e w' ⟨rfl, rfl⟩
          go_wp2_with fail
          refine (rotl_any x2 19 l2 (by omega) _).mono ?_; rintro e w' ⟨rfl, rfl⟩
          go_wp2_with fail
          go_region
          go_wp2
          go_roundg (gk - 1)
          case measure => have := HTK.out; omega
          case rel =>
            obtain ⟨hn, HL, hL⟩ := HN.out
            have ez : ((y1 : Int) + x7 + y0 + x16) % 4294967296 = (nextW L : Nat) := by rw [hn]; omega
            refine ⟨t + 1, by have := HTK.out; omega, by omega, by go_num, ?_, (hc2.drewN _).far (by simp) _, (below_drewN hcel _).setCell (by simp; omega) _⟩
            have h := (hc3.drewN (nq + 1)).set_ t (.int .u32 (nextW L : Nat))
            rw [u32s_set, ← HL, pad64_set L _ (by omega)] at h
            rw [show t + 1 - 16 = (t - 16) + 1 by omega, ext, hL, ez]
            rw [HL] at h
            exact h
        · obtain rfl : t = 64 := by have := HTK.out; omega
          clear ht
          have hl64 : (ext (words b 16) 48).length = 64 := by rw [ext_length, words_length]
          rw [show (64 : Nat) - 16 = 48 from rfl, pad64_full _ hl64] at hc3
          go_wp2_with (first
            | (refine wpList_load_row rfl 29 (.tmp 3) rfl (w.heap.size + 1 + 1) rfl 29 (u32s (ext (words b 16) 48)) (0, 0) _ hc3 Tryd.underlying29 rfl (size29 _ hl64) ?_)
            | (refine wpList_store_row rfl 29 (.tmp 2) (.tmp 80) rfl (w.heap.size + 1) (u32s (ext (words b 16) 48)) rfl rfl 29 (u32s (pad64 [])) hc2 (size29 _ hl64) (by rw [u32s_size, u32s_size, hl64]; rfl) (u32s_one _) ?_))
          exact bodyPost_ret (v := .agg (u32s (ext (words b 16) 48))) (results_cell_row rfl _ _ (w.heap.size + 1) 29 _ (0, 0) _ rfl (hc2.setRow _) Tryd.underlying29 rfl (size29 _ hl64)) rfl
            ⟨rfl, below_setRow' hcel (by omega) _⟩
end Go.Proofs.YtediocpdpghbfaaDoor
namespace Go.Proofs.YtediocpdpghbfaaDoor
open Go Go.RowKit

theorem quiet_add_left {P : Program} {f : FuncId} {args : Array Value} {w : World} {a n : Nat} {v : Value}
    (h : Calls P f args (w.drewN (a + n)) fun e w' => e = .returned v ∧ w.drewN (a + n) = w') :
    Calls P f args (w.drewN (a + n)) fun e w'' => e = .returned v ∧ ∃ m, w'' = w.drewN (a + m) :=
  h.mono fun _ _ ⟨he, hm⟩ => ⟨he, n, hm.symm⟩
theorem quiet_left {P : Program} {f : FuncId} {args : Array Value} {w : World} {n : Nat} {v : Value}
    (h : Calls P f args (w.drewN n) fun e w' => e = .returned v ∧ w.drewN n = w') : Calls P f args (w.drewN n) fun e w'' => e = .returned v ∧ ∃ m, w'' = w.drewN m :=
  h.mono fun _ _ ⟨he, hm⟩ => ⟨he, n, hm.symm⟩

theorem big0_lt (a : Nat) (h : a < 4294967296) : big0 a < 4294967296 :=
  Nat.xor_lt_two_pow (n := 32) (Nat.xor_lt_two_pow (n := 32) (rotr_lt a 2 h) (rotr_lt a 13 h)) (rotr_lt a 22 h)
theorem big1_lt (a : Nat) (h : a < 4294967296) : big1 a < 4294967296 :=
  Nat.xor_lt_two_pow (n := 32) (Nat.xor_lt_two_pow (n := 32) (rotr_lt a 6 h) (rotr_lt a 11 h)) (rotr_lt a 25 h)
theorem ch_lt (e f g : Nat) (he : e < 4294967296) (hf : f < 4294967296) (hg : g < 4294967296) : ch e f g < 4294967296 :=
  Nat.xor_lt_two_pow (n := 32) (Nat.and_lt_two_pow _ hf) (Nat.and_lt_two_pow _ hg)
theorem maj_lt (a b c : Nat) (ha : a < 4294967296) (hb : b < 4294967296) (hc : c < 4294967296) : maj a b c < 4294967296 :=
  Nat.xor_lt_two_pow (n := 32) (Nat.xor_lt_two_pow (n := 32) (Nat.and_lt_two_pow _ hb) (Nat.and_lt_two_pow _ hc)) (Nat.and_lt_two_pow _ hc)
theorem not_walk (e : Nat) (he : e < 4294967296) : bits .xor .u32 (if IntKind.u32.signed = true then -1 else IntKind.u32.max) (e : Int) = ((4294967295 - e : Nat) : Int) := by
  have hm : (if IntKind.u32.signed = true then (-1 : Int) else IntKind.u32.max) = ((4294967295 : Nat) : Int) := by decide
  rw [hm, bits_xor_u32 _ _ (by omega) he]
  congr 1
  have h1 : (4294967295 : Nat) = 2 ^ 32 - 1 := by decide
  have h2 := BitVec.toNat_not (x := BitVec.ofNat 32 e)
  have h3 : (~~~ (BitVec.ofNat 32 e)).toNat = (BitVec.allOnes 32 ^^^ BitVec.ofNat 32 e).toNat := by rw [BitVec.allOnes_xor]
  rw [BitVec.toNat_xor, BitVec.toNat_allOnes, BitVec.toNat_ofNat, Nat.mod_eq_of_lt (show e < 2 ^ 32 by omega)] at h3
  rw [BitVec.toNat_ofNat, Nat.mod_eq_of_lt (show e < 2 ^ 32 by omega)] at h2
  rw [h1, ← h3, h2]
theorem ch_walk (e f g : Nat) (he : e < 4294967296) (hf : f < 4294967296) (hg : g < 4294967296) :
    bits BinOp.xor IntKind.u32 (bits BinOp.and IntKind.u32 (e : Int) f) (bits BinOp.and IntKind.u32 (bits BinOp.xor IntKind.u32 (if IntKind.u32.signed = true then -1 else IntKind.u32.max) (e : Int)) g) = (ch e f g : Nat) := by
  rw [not_walk e he, bits_and_u32 _ _ he hf, bits_and_u32 _ _ (by omega) hg, bits_xor_u32 _ _ (Nat.and_lt_two_pow (n := 32) _ hf) (Nat.and_lt_two_pow (n := 32) _ hg)]
  rfl
theorem maj_walk (a b c : Nat) (ha : a < 4294967296) (hb : b < 4294967296) (hc : c < 4294967296) :
    bits BinOp.xor IntKind.u32 (bits BinOp.xor IntKind.u32 (bits BinOp.and IntKind.u32 (a : Int) b) (bits BinOp.and IntKind.u32 (a : Int) c)) (bits BinOp.and IntKind.u32 (b : Int) c) = (maj a b c : Nat) := by
  rw [bits_and_u32 _ _ ha hb, bits_and_u32 _ _ ha hc, bits_and_u32 _ _ hb hc, bits_xor_u32 _ _ (Nat.and_lt_two_pow (n := 32) _ hb) (Nat.and_lt_two_pow (n := 32) _ hc),
    bits_xor_u32 _ _ (Nat.xor_lt_two_pow (n := 32) (Nat.and_lt_two_pow (n := 32) _ hb) (Nat.and_lt_two_pow (n := 32) _ hc)) (Nat.and_lt_two_pow (n := 32) _ hc)]
  rfl
theorem big1_any (x : Nat) (hx : x < 4294967296) (w : World) :
    Calls Tryd.prog 67 #[.int .u32 x, .int .i64 6, .int .i64 11, .int .i64 25] w fun e w' => e = .returned (.int .u32 (big1 x : Nat)) ∧ w = w' :=
  rotate_any x 6 11 25 hx (by omega) (by omega) (by omega) w
theorem big0_any (x : Nat) (hx : x < 4294967296) (w : World) :
    Calls Tryd.prog 67 #[.int .u32 x, .int .i64 2, .int .i64 13, .int .i64 22] w fun e w' => e = .returned (.int .u32 (big0 x : Nat)) ∧ w = w' :=
  rotate_any x 2 13 22 hx (by omega) (by omega) (by omega) w
theorem agg8 (x0 x4 y0 y4 : Int) (v1 v2 v3 v5 v6 v7 : Value) (h0 : x0 = y0) (h4 : x4 = y4) :
    Value.agg #[.int .u32 x0, v1, v2, v3, .int .u32 x4, v5, v6, v7] = Value.agg #[.int .u32 y0, v1, v2, v3, .int .u32 y4, v5, v6, v7] := by rw [h0, h4]
theorem size30 : (Tryd.prog.info? 30).map (·.size) = some 8 := by kernel_rfl
set_option maxRecDepth 100000 in
theorem round_any (a b c d e f g z k x : Nat) (ha : a < 4294967296) (hb : b < 4294967296) (hc : c < 4294967296) (hd : d < 4294967296)
    (he : e < 4294967296) (hf : f < 4294967296) (hg : g < 4294967296) (hh : z < 4294967296) (hk : k < 4294967296) (hx : x < 4294967296)
    (w : World) (s : Nat) (hs : Blk w s 30 (u32s [a, b, c, d, e, f, g, z])) :
    Calls Tryd.prog 66 #[.int .u32 k, .int .u32 x, .pointer (some ⟨s, 0, none⟩)] w fun r w' => r = .returned (.tuple #[]) ∧ Blk w' s 30 (u32s (rnd [a, b, c, d, e, f, g, z] k x)) ∧ w.grownBy w' (some s) := by
  have c0 := hs.u32 (i := 0) (by simp)
  have c1 := hs.u32 (i := 1) (by simp)
  have c2 := hs.u32 (i := 2) (by simp)
  have c3 := hs.u32 (i := 3) (by simp)
  have c4 := hs.u32 (i := 4) (by simp)
  have c5 := hs.u32 (i := 5) (by simp)
  have c6 := hs.u32 (i := 6) (by simp)
  have c7 := hs.u32 (i := 7) (by simp)
  simp only [List.getD_cons_zero, List.getD_cons_succ] at c0 c1 c2 c3 c4 c5 c6 c7
  have hch := ch_walk e f g he hf hg
  have hmaj := maj_walk a b c ha hb hc
  have l1 := ch_lt e f g he hf hg
  have l2 := maj_lt a b c ha hb hc
  have l3 := big1_lt e he
  have l4 := big0_lt a ha
  generalize hCH : ch e f g = CH at *
  generalize hMJ : maj a b c = MJ at *
  have HG := Lib.hid (And.intro hCH hMJ); clear hCH hMJ
  go_enter Tryd.func66, Tryd.ntmps66
  go_wp2_with fail
  go_quiet (fail)
  rename_i n1
  go_wp2_with fail
  go_quiet ((go_at_call 67; exact quiet_add_left (big1_any e he _)))
  rename_i n2
  go_wp2_with fail
  refine (big0_any a ha _).mono ?_; rintro e w' ⟨rfl, rfl⟩
  have hsg : IntKind.u32.signed = false := rfl
  go_wp2_with (refine wpList_store_row rfl 30 (.tmp 2) (.tmp 70) rfl s (u32s (rnd [a, b, c, d, e, f, g, z] k x)) rfl ?hy 30 _ (hs.drewN _) size30 rfl (u32s_one _) ?_)
  case hy =>
    have ht1 : t1 [a, b, c, d, e, f, g, z] k x = (z + big1 e + CH + k + x) % 4294967296 := by rw [← HG.out.1]; rfl
    have ht2 : t2 [a, b, c, d, e, f, g, z] = (big0 a + MJ) % 4294967296 := by rw [← HG.out.2]; rfl
    refine agg8 _ _ (((t1 [a, b, c, d, e, f, g, z] k x + t2 [a, b, c, d, e, f, g, z]) % 4294967296 : Nat) : Int) (((d + t1 [a, b, c, d, e, f, g, z] k x) % 4294967296 : Nat) : Int) _ _ _ _ _ _ ?_ ?_
    · rw [ht1, ht2]; omega
    · rw [ht1]; omega
  go_end0
  exact ⟨rfl, (hs.drewN _).setRow _, grown_setRow (grown_drewN (World.grownBy.refl _ _) _) _⟩
end Go.Proofs.YtediocpdpghbfaaDoor
namespace Go.Proofs.YtediocpdpghbfaaDoor
open Go Go.RowKit

theorem size28 : (Tryd.prog.info? 28).map (·.size) = some 1 := by kernel_rfl
theorem run_index_word (l : List Nat) (hl : l.length = 64) (i : Nat) (hi : i < 64) (w : World) :
    (Instr.index 29 (.agg (u32s l)) (.int .i64 (i : Int))).run Tryd.prog w = .ok (.int .u32 (l.getD i 0 : Nat)) w := by
  have h1 := u32s_at l i (by omega)
  have hs := size28
  cases hq : Tryd.prog.info? 28 with
  | none => simp [hq] at hs
  | some j =>
    have hj : j.size = 1 := by simpa [hq] using hs
    have hii : (i : Int) < (64 : Nat) := by omega
    simp [Instr.index, asIntOf, run_underlying Tryd.underlying29, run_underlying Tryd.underlying28, Go.part, isAgg, sizeOf, typeInfo, hq, hj, h1, hi]

/-- the package's two tables lie as its text lays them: the round constants in block 0, the initial state in block 1 -/
def KK : List Nat := [1116352408, 1899447441, 3049323471, 3921009573, 961987163, 1508970993, 2453635748, 2870763221, 3624381080, 310598401, 607225278, 1426881987, 1925078388, 2162078206, 2614888103, 3248222580, 3835390401, 4022224774, 264347078, 604807628, 770255983, 1249150122, 1555081692, 1996064986, 2554220882, 2821834349, 2952996808, 3210313671, 3336571891, 3584528711, 113926993, 338241895, 666307205, 773529912, 1294757372, 1396182291, 1695183700, 1986661051, 2177026350, 2456956037, 2730485921, 2820302411, 3259730800, 3345764771, 3516065817, 3600352804, 4094571909, 275423344, 430227734, 506948616, 659060556, 883997877, 958139571, 1322822218, 1537002063, 1747873779, 1955562222, 2024104815, 2227730452, 2361852424, 2428436474, 2756734187, 3204031479, 3329325298]
def HH : List Nat := [1779033703, 3144134277, 1013904242, 2773480762, 1359893119, 2600822924, 528734635, 1541459225]
structure Tabs (w : World) : Prop where
  two : 2 ≤ w.heap.size
  k : ∃ t fr, w.heap[0]? = some (.cells (u32s KK) t fr)
  h : ∃ t fr, w.heap[1]? = some (.cells (u32s HH) t fr)
theorem Tabs.below {w w' : World} {B : Nat} (h : Tabs w) (hb : Below B w w') (hB : 2 ≤ B) : Tabs w' :=
  ⟨Nat.le_trans h.two hb.size, by rw [hb.block 0 (by omega)]; exact h.k, by rw [hb.block 1 (by omega)]; exact h.h⟩
theorem Tabs.grown {w w' : World} {g : Nat} (h : Tabs w) (hb : w.grownBy w' (some g)) (hg : 2 ≤ g) : Tabs w' :=
  ⟨Nat.le_trans h.two hb.size, by rw [hb.block 0 (by have := h.two; omega) (by simp; omega)]; exact h.k, by rw [hb.block 1 (by have := h.two; omega) (by simp; omega)]; exact h.h⟩
theorem Tabs.kcell {w : World} (h : Tabs w) {i : Nat} (hi : i < 64) : w.cell? ⟨0, i, none⟩ = some (.int .u32 (KK.getD i 0 : Nat)) := by
  obtain ⟨t, fr, h⟩ := h.k
  exact (cell_of_row w 0 i _ t fr h).trans (u32s_at KK i hi)
theorem words_KK : Words KK := words_of_mem (by decide)
theorem words_HH : Words HH := words_of_mem (by decide)

theorem words_sched (b : List Nat) (hB : Bytes b) : Words (sched b) := words_ext _ (words_words b hB 16) 48
theorem rnd_words (s : List Nat) (k w : Nat) (h : Words s) : Words (rnd s k w) := by
  refine words_of_mem fun x hx => ?_
  simp only [rnd, List.mem_cons, List.not_mem_nil, or_false] at hx
  rcases hx with rfl | rfl | rfl | rfl | rfl | rfl | rfl | rfl
  · exact Nat.mod_lt _ (by omega)
  · exact h 0
  · exact h 1
  · exact h 2
  · exact Nat.mod_lt _ (by omega)
  · exact h 4
  · exact h 5
  · exact h 6
theorem rnds_words (K W s : List Nat) (h : Words s) (n : Nat) : Words (rnds K W s n) := by
  induction n with
  | zero => exact h
  | succ n ih => exact rnd_words _ _ _ ih
theorem rnds_length (K W s : List Nat) (h : s.length = 8) (n : Nat) : (rnds K W s n).length = 8 := by
  cases n with
  | zero => exact h
  | succ n => rfl
theorem list8 (l : List Nat) (h : l.length = 8) : ∃ a b c d e f g z, l = [a, b, c, d, e, f, g, z] := by
  match l, h with
  | [a, b, c, d, e, f, g, z], _ => exact ⟨a, b, c, d, e, f, g, z, rfl⟩
theorem round_list (st : List Nat) (hl : st.length = 8) (hS : Words st) (k x : Nat) (hk : k < 4294967296) (hx : x < 4294967296) (w : World) (s : Nat) (hs : Blk w s 30 (u32s st)) :
    Calls Tryd.prog 66 #[.int .u32 k, .int .u32 x, .pointer (some ⟨s, 0, none⟩)] w fun r w' => r = .returned (.tuple #[]) ∧ Blk w' s 30 (u32s (rnd st k x)) ∧ w.grownBy w' (some s) := by
  obtain ⟨a, b, c, d, e, f, g, z, rfl⟩ := list8 st hl
  exact round_any a b c d e f g z k x (hS 0) (hS 1) (hS 2) (hS 3) (hS 4) (hS 5) (hS 6) (hS 7) hk hx w s hs
/-- the first i words summed up already -/
def addTo (v s : List Nat) (i : Nat) : List Nat := (List.range 8).map fun j => if j < i then (v.getD j 0 + s.getD j 0) % 4294967296 else v.getD j 0
theorem addTo_length (v s : List Nat) (i : Nat) : (addTo v s i).length = 8 := by simp [addTo]
theorem addTo_getD (v s : List Nat) (i j : Nat) (hj : j < 8) : (addTo v s i).getD j 0 = if j < i then (v.getD j 0 + s.getD j 0) % 4294967296 else v.getD j 0 := by
  simp [addTo, List.getD_eq_getElem?_getD, hj]
theorem addTo_at (v s : List Nat) (i : Nat) (hi : i < 8) : (addTo v s i).getD i 0 = v.getD i 0 := by rw [addTo_getD _ _ _ _ hi, if_neg (by omega)]
theorem ext_getD {l r : List Nat} {n : Nat} (hl : l.length = n) (hr : r.length = n) (h : ∀ j, j < n → l.getD j 0 = r.getD j 0) : l = r := by
  refine List.ext_getElem (by omega) fun j h1 h2 => ?_
  have := h j (by omega)
  simpa [List.getD_eq_getElem?_getD, List.getElem?_eq_getElem h1, List.getElem?_eq_getElem h2] using this
theorem addTo_zero (v s : List Nat) (h : v.length = 8) : addTo v s 0 = v :=
  ext_getD (addTo_length _ _ _) h fun j hj => by rw [addTo_getD _ _ _ _ hj, if_neg (by omega)]
theorem addTo_full (v s : List Nat) : addTo v s 8 = addUp v s :=
  ext_getD (addTo_length _ _ _) (by simp [addUp]) fun j hj => by rw [addTo_getD _ _ _ _ hj, if_pos hj]; simp [addUp, List.getD_eq_getElem?_getD, hj]
theorem addTo_set (v s : List Nat) (i : Nat) (hi : i < 8) : (addTo v s i).set i ((v.getD i 0 + s.getD i 0) % 4294967296) = addTo v s (i + 1) := by
  refine ext_getD (n := 8) (by rw [List.length_set, addTo_length]) (addTo_length _ _ _) fun j hj => ?_
  rw [addTo_getD _ _ _ _ hj]
  by_cases e : i = j
  · subst e
    rw [getD_set_same _ _ _ (by rw [addTo_length]; exact hi), if_pos (by omega)]
  · rw [List.getD_eq_getElem?_getD, List.getElem?_set_ne e, ← List.getD_eq_getElem?_getD, addTo_getD _ _ _ _ hj]
    by_cases h : j < i
    · rw [if_pos h, if_pos (by omega)]
    · rw [if_neg h, if_neg (by omega)]
theorem size30l (l : List Nat) (h : l.length = 8) : (Tryd.prog.info? 30).map (·.size) = some (u32s l).size := by
  rw [u32s_size, h]; kernel_rfl
theorem size37l (l : List Nat) (h : l.length = 64) : (Tryd.prog.info? 37).map (·.size) = some (u8s l).size := by
  rw [u8s_size, h]; kernel_rfl
set_option maxRecDepth 100000 in
theorem compress_any (st b : List Nat) (hst : st.length = 8) (hS : Words st) (hb : b.length = 64) (hB : Bytes b) (w : World) (hT : Tabs w) :
    Calls Tryd.prog 23 #[.agg (u32s st), .agg (u8s b)] w fun e w' => e = .returned (.agg (u32s (compress KK st b))) ∧ Below w.heap.size w w' := by
  go_enter Tryd.func23, Tryd.ntmps23
  have A : Blk (((w.alloc (.cells (u32s st) 30)).alloc (.cells (u8s b) 37)).alloc (.cells (u32s (List.replicate 8 0)) 30)) w.heap.size 30 (u32s st) := ((Blk.new _ _ _).alloc _).alloc _
  have HA := Lib.hid A; clear A
  have A2 : Blk ((((w.alloc (.cells (u32s st) 30)).alloc (.cells (u8s b) 37)).alloc (.cells (u32s (List.replicate 8 0)) 30)).alloc (.cells (u32s (List.replicate 8 0)) 30)) (w.heap.size + 1 + 1 + 1) 30 (u32s (List.replicate 8 0)) := Blk.new3 _ _ _ _ _ _
  have HA2 := Lib.hid A2; clear A2
  have A3 : Blk (((((w.alloc (.cells (u32s st) 30)).alloc (.cells (u8s b) 37)).alloc (.cells (u32s (List.replicate 8 0)) 30)).alloc (.cells (u32s (List.replicate 8 0)) 30)).setRow (w.heap.size + 1 + 1 + 1) (u32s st)) (w.heap.size + 1) 37 (u8s b) :=
    (((Blk.new1 _ _ _ _).alloc _).alloc _).farRow (by omega) _
  have HA3 := Lib.hid A3; clear A3
  go_wp2_with (first
    | (refine wpList_load_row rfl 30 (.tmp 2) rfl w.heap.size rfl 30 (u32s st) (0, 0) _ HA.out Tryd.underlying30 rfl (size30l st hst) ?_)
    | (refine wpList_store_row rfl 30 (.tmp 5) (.tmp 10) rfl (w.heap.size + 1 + 1 + 1) (u32s st) rfl rfl 30 (u32s (List.replicate 8 0)) HA2.out (size30l st hst) (by rw [u32s_size, u32s_size, hst]; rfl) (u32s_one _) ?_)
    | (refine wpList_load_row rfl 37 (.tmp 3) rfl (w.heap.size + 1) rfl 37 (u8s b) (0, 0) _ HA3.out Tryd.underlying37 rfl (size37l b hb) ?_))
  refine (sched_any b hb hB _).mono ?_; rintro e w1 ⟨rfl, hbel⟩
  have s1 : w.heap.size + 1 + 1 + 1 + 1 ≤ w1.heap.size := by have := hbel.size; simpa using this
  have B0 : Below w.heap.size w w1 := by
    refine Below.trans ?_ (hbel.mono (by simp; omega))
    exact below_setRow' (((((Below.refl _ _).alloc (Nat.le_refl _) _).alloc (by simp) _).alloc (by simp; omega) _).alloc (by simp; omega) _) (by omega) _
  have E1 : Blk w1 w.heap.size 30 (u32s st) := Blk.below ((HA.out.alloc _).farRow (by omega) _) hbel (by simp; omega)
  have E2 : Blk w1 (w.heap.size + 1 + 1) 30 (u32s (List.replicate 8 0)) := Blk.below (((Blk.new2 _ _ _ _ _).alloc _).farRow (by omega) _) hbel (by simp)
  have E3 : Blk w1 (w.heap.size + 1 + 1 + 1) 30 (u32s st) := Blk.below (HA2.out.setRow _) hbel (by simp)
  have T1 : Tabs w1 := hT.below B0 hT.two
  clear HA HA2 HA3 hbel
  have HE := Lib.hid (And.intro E1 (And.intro E2 (And.intro E3 (And.intro B0 T1)))); clear E1 E2 E3 B0 T1
  go_wp2_with fail
  go_loopg [14] 64 (fun k i wr => ∃ t : Nat, t + k = 64 ∧ i = .int .i64 t ∧ Blk wr w.heap.size 30 (u32s st) ∧ Blk wr (w.heap.size + 1 + 1) 30 (u32s (List.replicate 8 0)) ∧
    Blk wr (w.heap.size + 1 + 1 + 1) 30 (u32s (rnds KK (sched b) st t)) ∧ Below w.heap.size w wr ∧ Tabs wr ∧ w.heap.size + 1 + 1 + 1 + 1 ≤ wr.heap.size)
  case atStart => obtain ⟨E1, E2, E3, B0, T1⟩ := HE.out; exact ⟨0, rfl, rfl, E1, E2, E3, B0, T1, s1⟩
  case round =>
    obtain ⟨t, htk, rfl, E1, E2, E3, B0, T1, hsz⟩ := hrel
    have HTK := Lib.hid htk; clear htk HE s1
    by_cases ht : t < 64
    · have hix := run_index_word (sched b) (sched_length b) t ht
      have kc := T1.kcell ht
      have lx := words_sched b hB t
      have lk := words_KK t
      generalize hx : (sched b).getD t 0 = x at *
      generalize hk : KK.getD t 0 = kk at *
      have HX := Lib.hid (And.intro hx hk); clear hx hk
      have HE := Lib.hid (And.intro E1 (And.intro E2 (And.intro E3 (And.intro B0 T1)))); clear E1 E2 E3 B0 T1
      go_wp2_with fail
      have E3 := HE.out.2.2.1
      have T1 := HE.out.2.2.2.2
      refine (round_list _ (rnds_length KK (sched b) st hst t) (rnds_words KK (sched b) st hS t) kk x lk lx wr _ E3).mono ?_
      clear E3 T1
      rintro e w2 ⟨rfl, E3, G⟩
      have HG := Lib.hid (And.intro E3 G); clear E3 G
      go_wp2_with fail
      go_roundg (gk - 1)
      case measure => have := HTK.out; omega
      case rel =>
        obtain ⟨E1, E2, E3', B0, T1⟩ := HE.out
        obtain ⟨E3, G⟩ := HG.out
        obtain ⟨hx, hk⟩ := HX.out
        refine ⟨t + 1, by have := HTK.out; omega, by go_num, E1.grown G (by simp; omega), E2.grown G (by simp), ?_, B0.grown G (by omega) (by simp; omega), T1.grown G (by have := hT.two; omega), Nat.le_trans hsz G.size⟩
        rw [rnds, hx, hk]; exact E3
    · obtain rfl : t = 64 := by have := HTK.out; omega
      clear ht
      generalize hv : rnds KK (sched b) st 64 = v at *
      have hvl : v.length = 8 := by rw [← hv]; exact rnds_length _ _ _ hst _
      have hvw : Words v := by rw [← hv]; exact rnds_words _ _ _ hS _
      have HV := Lib.hid hv; clear hv
      have HE := Lib.hid (And.intro E1 (And.intro E2 (And.intro E3 (And.intro B0 T1)))); clear E1 E2 E3 B0 T1
      go_wp2_with fail
      go_loopg [25] 8 (fun k i wr => ∃ t : Nat, t + k = 8 ∧ i = .int .i64 t ∧ Blk wr w.heap.size 30 (u32s st) ∧ Blk wr (w.heap.size + 1 + 1) 30 (u32s (List.replicate 8 0)) ∧
        Blk wr (w.heap.size + 1 + 1 + 1) 30 (u32s (addTo v st t)) ∧ Below w.heap.size w wr)
      case atStart => obtain ⟨E1, E2, E3, B0, T1⟩ := HE.out; exact ⟨0, rfl, rfl, E1, E2, by rw [addTo_zero v st hvl]; exact E3, B0⟩
      case round =>
        obtain ⟨t, htk, rfl, E1, E2, E3, B0⟩ := hrel
        have HTK := Lib.hid htk; clear htk HE
        by_cases ht : t < 8
        · have c1 := E1.u32 (i := t) (by omega)
          have c3 := E3.u32 (i := t) (by rw [addTo_length]; omega)
          have f3 := E3.frozen t
          rw [addTo_at v st t ht] at c3
          have l1 := hS t; have l3 := hvw t
          have hset := addTo_set v st t ht
          generalize st.getD t 0 = x at *
          generalize v.getD t 0 = y at *
          have HS := Lib.hid hset; clear hset
          have HE := Lib.hid (And.intro E1 (And.intro E2 (And.intro E3 B0))); clear E1 E2 E3 B0
          go_wp2_with fail
          go_region
          go_wp2
          go_roundg (gk - 1)
          case measure => have := HTK.out; omega
          case rel =>
            obtain ⟨E1, E2, E3, B0⟩ := HE.out
            refine ⟨t + 1, by have := HTK.out; omega, by go_num, (E1.drewN 1).far (by simp; omega) _, (E2.drewN 1).far (by simp) _, ?_, (below_drewN B0 1).setCell (by simp; omega) _⟩
            have h := (E3.drewN 1).set_ t (.int .u32 ((y + x) % 4294967296 : Nat))
            rw [u32s_set, HS.out] at h
            exact h
        · obtain rfl : t = 8 := by have := HTK.out; omega
          clear ht
          rw [addTo_full] at E3
          have hl8 : (addUp v st).length = 8 := by simp [addUp]
          have HL8 := Lib.hid hl8; clear hl8
          have HE := Lib.hid (And.intro E1 (And.intro E2 (And.intro E3 B0))); clear E1 E2 E3 B0
          go_wp2_with (first
            | (refine wpList_load_row rfl 30 (.tmp 5) rfl (w.heap.size + 1 + 1 + 1) rfl 30 (u32s (addUp v st)) (0, 0) _ HE.out.2.2.1 Tryd.underlying30 rfl (size30l _ HL8.out) ?_)
            | (refine wpList_store_row rfl 30 (.tmp 4) (.tmp 37) rfl (w.heap.size + 1 + 1) (u32s (addUp v st)) rfl rfl 30 (u32s (List.replicate 8 0)) HE.out.2.1 (size30l _ HL8.out) (by rw [u32s_size, u32s_size, HL8.out]; rfl) (u32s_one _) ?_))
          obtain ⟨E1, E2, E3, B0⟩ := HE.out
          refine bodyPost_ret (v := .agg (u32s (addUp v st))) (results_cell_row rfl _ _ (w.heap.size + 1 + 1) 30 _ (0, 0) _ rfl (E2.setRow _) Tryd.underlying30 rfl (size30l _ HL8.out)) rfl ⟨?_, below_setRow' B0 (by omega) _⟩
          rw [compress, HV.out]
end Go.Proofs.YtediocpdpghbfaaDoor
namespace Go.Proofs.YtediocpdpghbfaaDoor
open Go Go.RowKit

/-- the reference's tables, as one list -/
def TT : List Nat := KK ++ HH
theorem TT_length : TT.length = 72 := by decide
theorem TT_k (i : Nat) (h : i < 64) : TT.getD i 0 = KK.getD i 0 := by
  simp only [TT, List.getD_eq_getElem?_getD]
  rw [List.getElem?_append_left (by simpa [KK] using h)]

theorem quiet_add {P : Program} {f : FuncId} {args : Array Value} {w : World} {a n : Nat} {v : Value}
    (h : Calls P f args (w.drewN (a + n)) fun e w' => e = .returned v ∧ ∃ m, w' = (w.drewN (a + n)).drewN m) :
    Calls P f args (w.drewN (a + n)) fun e w'' => e = .returned v ∧ ∃ m, w'' = w.drewN (a + m) :=
  h.mono fun _ _ ⟨he, m, hm⟩ => ⟨he, n + m, by rw [hm, World.drewN_drewN, Nat.add_assoc]⟩
theorem quiet_one {P : Program} {f : FuncId} {args : Array Value} {w : World} {n : Nat} {v : Value}
    (h : Calls P f args (w.drewN n) fun e w' => e = .returned v ∧ ∃ m, w' = (w.drewN n).drewN m) :
    Calls P f args (w.drewN n) fun e w'' => e = .returned v ∧ ∃ m, w'' = w.drewN m :=
  h.mono fun _ _ ⟨he, m, hm⟩ => ⟨he, n + m, by rw [hm, World.drewN_drewN]⟩

theorem ch_ref (e f g : Nat) (he : e < 4294967296) (hf : f < 4294967296) (hg : g < 4294967296) :
    bits BinOp.xor IntKind.u32 (bits BinOp.and IntKind.u32 (e : Int) f) (bits BinOp.and IntKind.u32 (4294967295 - (e : Int)) g) = (ch e f g : Nat) := by
  have e1 : (4294967295 - (e : Int)) = ((4294967295 - e : Nat) : Int) := by omega
  rw [e1, bits_and_u32 _ _ he hf, bits_and_u32 _ _ (by omega) hg, bits_xor_u32 _ _ (Nat.and_lt_two_pow (n := 32) _ hf) (Nat.and_lt_two_pow (n := 32) _ hg)]
  rfl
theorem big1_ref (e : Nat) (he : e < 4294967296) : bits .xor .u32 (bits .xor .u32 (rotr e 6 : Nat) (rotr e 11 : Nat)) (rotr e 25 : Nat) = (big1 e : Nat) := by
  rw [bits_xor_u32 _ _ (rotr_lt e 6 he) (rotr_lt e 11 he), bits_xor_u32 _ _ (Nat.xor_lt_two_pow (n := 32) (rotr_lt e 6 he) (rotr_lt e 11 he)) (rotr_lt e 25 he)]
  rfl
theorem big0_ref (e : Nat) (he : e < 4294967296) : bits .xor .u32 (bits .xor .u32 (rotr e 2 : Nat) (rotr e 13 : Nat)) (rotr e 22 : Nat) = (big0 e : Nat) := by
  rw [bits_xor_u32 _ _ (rotr_lt e 2 he) (rotr_lt e 13 he), bits_xor_u32 _ _ (Nat.xor_lt_two_pow (n := 32) (rotr_lt e 2 he) (rotr_lt e 13 he)) (rotr_lt e 22 he)]
  rfl
theorem word_eq (b : List Nat) (i : Nat) : word b i = b.getD (4 * i) 0 * 16777216 + b.getD (4 * i + 1) 0 * 65536 + b.getD (4 * i + 2) 0 * 256 + b.getD (4 * i + 3) 0 := by
  simp only [word, part, Nat.add_zero]; omega

set_option maxRecDepth 100000 in
set_option maxHeartbeats 4000000 in
theorem refcomp_any (st b : List Nat) (hst : st.length = 8) (hS : Words st) (hb : b.length = 64) (hB : Bytes b) (w : World) (g off cap : Nat)
    (hr : ∀ j, j < 64 → w.cell? ⟨g, off + j, none⟩ = some (.int .u8 (b.getD j 0 : Nat))) :
    Calls Tryd.prog 24 #[.agg (u32s TT), .agg (u32s st), .slice (some ⟨g, off, none⟩) 64 cap] w fun e w' => e = .returned (.agg (u32s (compress KK st b))) ∧ Below w.heap.size w w' := by
  have hgl : g < w.heap.size := block_lt_of_cell (hr 0 (by omega))
  have HR := Lib.hid hr; clear hr
  go_enter Tryd.func24, Tryd.ntmps24
  go_wp2_with fail
  go_loopg [8] 16 (fun k i wr => ∃ n : Nat, n + k = 16 ∧ i = .int .i64 n ∧ Blk wr w.heap.size 32 (u32s TT) ∧ Blk wr (w.heap.size + 1) 30 (u32s st) ∧ Blk wr (w.heap.size + 1 + 1) 30 (u32s (List.replicate 8 0)) ∧
     Blk wr (w.heap.size + 1 + 1 + 1) 29 (u32s (pad64 (words b n))) ∧ Below w.heap.size w wr)
  case atStart =>
    exact ⟨0, rfl, rfl, (((Blk.new _ _ _).alloc _).alloc _).alloc _, ((Blk.new1 _ _ _ _).alloc _).alloc _, (Blk.new2 _ _ _ _ _).alloc _, Blk.new3 _ _ _ _ _ _,
      ((((Below.refl _ _).alloc (Nat.le_refl _) _).alloc (by simp) _).alloc (by simp; omega) _).alloc (by simp; omega) _⟩
  case round =>
    obtain ⟨n, hnk, rfl, E0, E1, E2, E3, B0⟩ := hrel
    have HNK := Lib.hid hnk; clear hnk
    by_cases hlt : n < 16
    · have d0 := (B0.cell (p := ⟨g, off + 4 * n, none⟩) hgl).trans (HR.out (4 * n) (by omega))
      have d1 := (B0.cell (p := ⟨g, off + (4 * n + 1), none⟩) hgl).trans (HR.out (4 * n + 1) (by omega))
      have d2 := (B0.cell (p := ⟨g, off + (4 * n + 2), none⟩) hgl).trans (HR.out (4 * n + 2) (by omega))
      have d3 := (B0.cell (p := ⟨g, off + (4 * n + 3), none⟩) hgl).trans (HR.out (4 * n + 3) (by omega))
      have dn := E3.u32 (i := n) (by rw [pad64_length _ (by rw [words_length]; omega)]; omega)
      have fn := E3.frozen n
      have hset := pad64_set (words b n) (word b n) (by rw [words_length]; omega)
      rw [words_length, ← words_succ, word_eq] at hset
      have l0 := hB (4 * n); have l1 := hB (4 * n + 1); have l2 := hB (4 * n + 2); have l3 := hB (4 * n + 3)
      generalize b.getD (4 * n) 0 = x0 at *
      generalize b.getD (4 * n + 1) 0 = x1 at *
      generalize b.getD (4 * n + 2) 0 = x2 at *
      generalize b.getD (4 * n + 3) 0 = x3 at *
      generalize (pad64 (words b n)).getD n 0 = xn at *
      have HS := Lib.hid hset; clear hset
      have HE := Lib.hid (And.intro E0 (And.intro E1 (And.intro E2 (And.intro E3 B0)))); clear E0 E1 E2 E3 B0
      go_wp2_with fail
      go_region
      go_wp2
      go_roundg (gk - 1)
      case measure => have := HNK.out; omega
      case rel =>
        obtain ⟨E0, E1, E2, E3, B0⟩ := HE.out
        refine ⟨n + 1, by have := HNK.out; omega, by go_num, (E0.drewN 1).far (by simp; omega) _, (E1.drewN 1).far (by simp) _, (E2.drewN 1).far (by simp) _, ?_, (below_drewN B0 1).setCell (by simp; omega) _⟩
        have h := (E3.drewN 1).set_ n (.int .u32 (x0 * 16777216 + x1 * 65536 + x2 * 256 + x3 : Nat))
        rw [u32s_set, HS.out] at h
        have ez : (x0 : Int) * 16777216 + x1 * 65536 + x2 * 256 + x3 = ((x0 * 16777216 + x1 * 65536 + x2 * 256 + x3 : Nat) : Int) := by omega
        rw [ez]
        exact h
    · obtain rfl : n = 16 := by have := HNK.out; omega
      clear hlt HR hgl
      have HE := Lib.hid (And.intro E0 (And.intro E1 (And.intro E2 (And.intro E3 B0)))); clear E0 E1 E2 E3 B0
      go_wp2_with fail
      go_loopg [9] 48 (fun k j wi => ∃ t : Nat, t + k = 64 ∧ 16 ≤ t ∧ j = .int .i64 t ∧ Blk wi w.heap.size 32 (u32s TT) ∧ Blk wi (w.heap.size + 1) 30 (u32s st) ∧ Blk wi (w.heap.size + 1 + 1) 30 (u32s (List.replicate 8 0)) ∧
        Blk wi (w.heap.size + 1 + 1 + 1) 29 (u32s (pad64 (ext (words b 16) (t - 16)))) ∧ Below w.heap.size w wi)
      case atStart => obtain ⟨E0, E1, E2, E3, B0⟩ := HE.out; exact ⟨16, rfl, Nat.le_refl _, rfl, E0, E1, E2, E3, B0⟩
      case round =>
        obtain ⟨t, htk, ht16, rfl, E0, E1, E2, hc3, B0⟩ := hrel
        have HTK := Lib.hid htk; clear htk HE HNK
        by_cases ht : t < 64
        · have HL : (ext (words b 16) (t - 16)).length = t := by rw [ext_length, words_length]; omega
          have HW : Words (ext (words b 16) (t - 16)) := words_ext _ (words_words b hB 16) _
          generalize hL : ext (words b 16) (t - 16) = L at *
          have d15 := hc3.u32 (i := t - 15) (by rw [pad64_length _ (by omega)]; omega)
          have d2 := hc3.u32 (i := t - 2) (by rw [pad64_length _ (by omega)]; omega)
          have d7 := hc3.u32 (i := t - 7) (by rw [pad64_length _ (by omega)]; omega)
          have d16 := hc3.u32 (i := t - 16) (by rw [pad64_length _ (by omega)]; omega)
          have dt := hc3.u32 (i := t) (by rw [pad64_length _ (by omega)]; omega)
          have f3 := hc3.frozen t
          rw [pad64_getD _ _ (by omega)] at d15 d2 d7 d16
          have l15 := HW (t - 15); have l2 := HW (t - 2); have l7 := HW (t - 7); have l16 := HW (t - 16)
          have hn : nextW L = (s1 (L.getD (t - 2) 0) + L.getD (t - 7) 0 + s0 (L.getD (t - 15) 0) + L.getD (t - 16) 0) % 4294967296 := by rw [nextW, HL]
          generalize (pad64 L).getD t 0 = xt at *
          generalize L.getD (t - 15) 0 = x15 at *
          generalize L.getD (t - 2) 0 = x2 at *
          generalize L.getD (t - 7) 0 = x7 at *
          generalize L.getD (t - 16) 0 = x16 at *
          have e0 := s0_walk x15 l15
          have e1 := s1_walk x2 l2
          have k0 := s0_lt x15 l15
          have k1 := s1_lt x2 l2
          generalize s0 x15 = y0 at *
          generalize s1 x2 = y1 at *
          have HN := Lib.hid (And.intro hn (And.intro HL hL)); clear hn HL hL HW
          have HE := Lib.hid (And.intro E0 (And.intro E1 (And.intro E2 (And.intro hc3 B0)))); clear E0 E1 E2 hc3 B0
          go_wp2_with fail
          go_quiet ((go_at_call 69; first | exact quiet_one (rotr_any _ _ (by assumption) (by omega) _) | exact quiet_add (rotr_any _ _ (by assumption) (by omega) _)))
          rename_i n1
          go_wp2_with fail
          go_quiet ((go_at_call 69; first | exact quiet_one (rotr_any _ _ (by assumption) (by omega) _) | exact quiet_add (rotr_any _ _ (by assumption) (by omega) _)))
          rename_i n2
          go_wp2_with fail
          go_region
          go_wp2
          go_roundg (gk - 1)
          case measure => have := HTK.out; omega
          case rel =>
            obtain ⟨hn, HL, hL⟩ := HN.out
            obtain ⟨E0, E1, E2, hc3, B0⟩ := HE.out
            have ez : ((y1 : Int) + x7 + y0 + x16) % 4294967296 = (nextW L : Nat) := by rw [hn]; omega
            refine ⟨t + 1, by have := HTK.out; omega, by omega, by go_num, (E0.drewN _).far (by simp; omega) _, (E1.drewN _).far (by simp) _, (E2.drewN _).far (by simp) _, ?_, (below_drewN B0 _).setCell (by simp; omega) _⟩
            rw [show t + 1 - 16 = (t - 16) + 1 by omega, ext, hL, ez]
            exact (hc3.drewN _).set32 _ _ (by have := pad64_set L (nextW L) (by omega); rwa [HL] at this)
        · obtain rfl : t = 64 := by have := HTK.out; omega
          clear ht
          rw [show ext (words b 16) (64 - 16) = sched b from rfl, pad64_full _ (sched_length b)] at hc3
          have HE := Lib.hid (And.intro E0 (And.intro E1 (And.intro E2 (And.intro hc3 B0)))); clear E0 E1 E2 hc3 B0
          have hsz : w.heap.size + 1 + 1 + 1 < wr.heap.size := HE.out.2.2.2.1.lt
          go_wp2_with (first
            | (refine wpList_load_row rfl 30 (.tmp 4) rfl (w.heap.size + 1) rfl 30 (u32s st) (0, 0) _ HE.out.2.1 Tryd.underlying30 rfl (size30l st hst) ?_)
            | (refine wpList_store_row rfl 30 (.tmp 12) (.tmp 115) rfl wr.heap.size (u32s st) rfl rfl 30 (u32s (List.replicate 8 0)) (Blk.new _ _ _) (size30l st hst) (by rw [u32s_size, u32s_size, hst]; rfl) (u32s_one _) ?_))
          generalize hS : wr.heap.size = S
          rw [hS] at hsz
          have HSz := Lib.hid hS; clear hS
          go_loopg [13] 64 (fun k i wi => ∃ t : Nat, t + k = 64 ∧ i = .int .i64 t ∧ Blk wi w.heap.size 32 (u32s TT) ∧ Blk wi (w.heap.size + 1) 30 (u32s st) ∧ Blk wi (w.heap.size + 1 + 1) 30 (u32s (List.replicate 8 0)) ∧
            Blk wi (w.heap.size + 1 + 1 + 1) 29 (u32s (sched b)) ∧ Blk wi S 30 (u32s (rnds KK (sched b) st t)) ∧ Below w.heap.size w wi)
          case atStart =>
            obtain ⟨E0, E1, E2, E3, B0⟩ := HE.out
            obtain rfl := HSz.out
            exact ⟨0, rfl, rfl, (E0.alloc _).farRow (by omega) _, (E1.alloc _).farRow (by omega) _, (E2.alloc _).farRow (by omega) _, (E3.alloc _).farRow (by omega) _, (Blk.new _ _ _).setRow _,
              below_setRow' (B0.alloc (by omega) _) (by omega) _⟩
          case round =>
            clear HE HTK ht16 HSz
            obtain ⟨t, htk, rfl, E0, E1, E2, E3, E4, B0⟩ := hrel
            have HTK := Lib.hid htk; clear htk
            by_cases ht : t < 64
            · have hw := rnds_words KK (sched b) st hS t
              obtain ⟨a, b', c, d, e, f, g', z, hl⟩ := list8 _ (rnds_length KK (sched b) st hst t)
              have hrn : rnds KK (sched b) st (t + 1) = rnd (rnds KK (sched b) st t) (KK.getD t 0) ((sched b).getD t 0) := rfl
              rw [hl] at E4 hw hrn
              have c0 := E4.u32 (i := 0) (by simp)
              have c1 := E4.u32 (i := 1) (by simp)
              have c2 := E4.u32 (i := 2) (by simp)
              have c3 := E4.u32 (i := 3) (by simp)
              have c4 := E4.u32 (i := 4) (by simp)
              have c5 := E4.u32 (i := 5) (by simp)
              have c6 := E4.u32 (i := 6) (by simp)
              have c7 := E4.u32 (i := 7) (by simp)
              have ha : a < 4294967296 := hw 0
              have hb' : b' < 4294967296 := hw 1
              have hc : c < 4294967296 := hw 2
              have hd : d < 4294967296 := hw 3
              have he : e < 4294967296 := hw 4
              have hf : f < 4294967296 := hw 5
              have hg' : g' < 4294967296 := hw 6
              have hz : z < 4294967296 := hw 7
              simp only [List.getD_cons_zero, List.getD_cons_succ] at c0 c1 c2 c3 c4 c5 c6 c7
              have dk := E0.u32 (i := t) (by rw [TT_length]; omega)
              rw [TT_k t ht] at dk
              have dx := E3.u32 (i := t) (by rw [sched_length]; omega)
              have lx := words_sched b hB t
              have lk := words_KK t
              generalize (sched b).getD t 0 = x at *
              generalize KK.getD t 0 = kk at *
              have hch := ch_ref e f g' he hf hg'
              have hmaj := maj_walk a b' c ha hb' hc
              have l1 := ch_lt e f g' he hf hg'
              have l2 := maj_lt a b' c ha hb' hc
              have hb1 := big1_ref e he
              have hb0 := big0_ref a ha
              have l3 := big1_lt e he
              have l4 := big0_lt a ha
              generalize hCH : ch e f g' = CH at *
              generalize hMJ : maj a b' c = MJ at *
              generalize hG1 : big1 e = G1 at *
              generalize hG0 : big0 a = G0 at *
              have HG := Lib.hid (And.intro hCH (And.intro hMJ (And.intro hG1 hG0))); clear hCH hMJ hG1 hG0
              have HL := Lib.hid (And.intro hl hrn); clear hl hrn hw
              have HE := Lib.hid (And.intro E0 (And.intro E1 (And.intro E2 (And.intro E3 (And.intro E4 B0))))); clear E0 E1 E2 E3 E4 B0
              go_wp2_with fail
              go_quiet (fail)
              go_wp2_with fail
              go_quiet ((go_at_call 69; first | exact quiet_one (rotr_any _ _ (by assumption) (by omega) _) | exact quiet_add (rotr_any _ _ (by assumption) (by omega) _)))
              go_wp2_with fail
              refine (rotr_any a 2 ha (by omega) _).mono ?_; rintro r w' ⟨rfl, m1, rfl⟩
              go_wp2_with fail
              refine (rotr_any a 13 ha (by omega) _).mono ?_; rintro r w' ⟨rfl, m2, rfl⟩
              go_wp2_with fail
              refine (rotr_any a 22 ha (by omega) _).mono ?_; rintro r w' ⟨rfl, m3, rfl⟩
              go_wp2_with (refine wpList_store_row rfl 30 (.tmp 12) (.tmp 194) rfl S (u32s (rnd [a, b', c, d, e, f, g', z] kk x)) rfl ?hy 30 _ (HE.out.2.2.2.2.1.drewN _) size30 rfl (u32s_one _) ?_)
              case hy =>
                have ht1 : t1 [a, b', c, d, e, f, g', z] kk x = (z + G1 + CH + kk + x) % 4294967296 := by rw [← HG.out.1, ← HG.out.2.2.1]; rfl
                have ht2 : t2 [a, b', c, d, e, f, g', z] = (G0 + MJ) % 4294967296 := by rw [← HG.out.2.1, ← HG.out.2.2.2]; rfl
                refine agg8 _ _ (((t1 [a, b', c, d, e, f, g', z] kk x + t2 [a, b', c, d, e, f, g', z]) % 4294967296 : Nat) : Int) (((d + t1 [a, b', c, d, e, f, g', z] kk x) % 4294967296 : Nat) : Int) _ _ _ _ _ _ ?_ ?_
                · rw [ht1, ht2]; omega
                · rw [ht1]; omega
              go_wp2_with fail
              go_roundg (gk - 1)
              case measure => have := HTK.out; omega
              case rel =>
                obtain ⟨E0, E1, E2, E3, E4, B0⟩ := HE.out
                refine ⟨t + 1, by have := HTK.out; omega, by go_num, (E0.drewN _).farRow (by omega) _, (E1.drewN _).farRow (by omega) _, (E2.drewN _).farRow (by omega) _, (E3.drewN _).farRow (by omega) _, ?_, below_setRow' (below_drewN B0 _) (by omega) _⟩
                rw [HL.out.2]
                exact (E4.drewN _).setRow _
            · obtain rfl : t = 64 := by have := HTK.out; omega
              clear ht
              generalize hv : rnds KK (sched b) st 64 = v at *
              have hvl : v.length = 8 := by rw [← hv]; exact rnds_length _ _ _ hst _
              have hvw : Words v := by rw [← hv]; exact rnds_words _ _ _ hS _
              have HV := Lib.hid hv; clear hv
              have HE := Lib.hid (And.intro E1 (And.intro E2 (And.intro E4 B0))); clear E0 E1 E2 E3 E4 B0
              go_wp2_with fail
              go_loopg [22] 8 (fun k i wi => ∃ t : Nat, t + k = 8 ∧ i = .int .i64 t ∧ Blk wi (w.heap.size + 1) 30 (u32s st) ∧ Blk wi (w.heap.size + 1 + 1) 30 (u32s (List.replicate 8 0)) ∧
                Blk wi S 30 (u32s (addTo v st t)) ∧ Below w.heap.size w wi)
              case atStart => obtain ⟨E1, E2, E3, B0⟩ := HE.out; exact ⟨0, rfl, rfl, E1, E2, by rw [addTo_zero v st hvl]; exact E3, B0⟩
              case round =>
                obtain ⟨t, htk, rfl, E1, E2, E3, B0⟩ := hrel
                clear HTK
                have HTK := Lib.hid htk; clear htk HE
                by_cases ht : t < 8
                · have c1 := E1.u32 (i := t) (by omega)
                  have c3 := E3.u32 (i := t) (by rw [addTo_length]; omega)
                  have f3 := E3.frozen t
                  rw [addTo_at v st t ht] at c3
                  have l1 := hS t; have l3 := hvw t
                  have hset := addTo_set v st t ht
                  generalize st.getD t 0 = x at *
                  generalize v.getD t 0 = y at *
                  have HS := Lib.hid hset; clear hset
                  have HE := Lib.hid (And.intro E1 (And.intro E2 (And.intro E3 B0))); clear E1 E2 E3 B0
                  go_wp2_with fail
                  go_region
                  go_wp2
                  go_roundg (gk - 1)
                  case measure => have := HTK.out; omega
                  case rel =>
                    obtain ⟨E1, E2, E3, B0⟩ := HE.out
                    exact ⟨t + 1, by have := HTK.out; omega, by go_num, (E1.drewN 1).far (by simp; omega) _, (E2.drewN 1).far (by simp; omega) _, (E3.drewN 1).set32 _ _ HS.out, (below_drewN B0 1).setCell (by simp; omega) _⟩
                · obtain rfl : t = 8 := by have := HTK.out; omega
                  clear ht
                  rw [addTo_full] at E3
                  have hl8 : (addUp v st).length = 8 := by simp [addUp]
                  have HL8 := Lib.hid hl8; clear hl8
                  have HE := Lib.hid (And.intro E1 (And.intro E2 (And.intro E3 B0))); clear E1 E2 E3 B0
                  go_wp2_with (first
                    | (refine wpList_load_row rfl 30 (.tmp 12) rfl S rfl 30 (u32s (addUp v st)) (0, 0) _ HE.out.2.2.1 Tryd.underlying30 rfl (size30l _ HL8.out) ?_)
                    | (refine wpList_store_row rfl 30 (.tmp 6) (.tmp 208) rfl (w.heap.size + 1 + 1) (u32s (addUp v st)) rfl rfl 30 (u32s (List.replicate 8 0)) HE.out.2.1 (size30l _ HL8.out) (by rw [u32s_size, u32s_size, HL8.out]; rfl) (u32s_one _) ?_))
                  obtain ⟨E1, E2, E3, B0⟩ := HE.out
                  refine bodyPost_ret (v := .agg (u32s (addUp v st))) (results_cell_row rfl _ _ (w.heap.size + 1 + 1) 30 _ (0, 0) _ rfl (E2.setRow _) Tryd.underlying30 rfl (size30l _ HL8.out)) rfl ⟨?_, below_setRow' B0 (by omega) _⟩
                  rw [compress, HV.out]
end Go.Proofs.YtediocpdpghbfaaDoor
namespace Go.Proofs.YtediocpdpghbfaaDoor

/-- the eight bytes of a number below 2^64, the greatest first -/
def be8 (x : Nat) : List Nat := (List.range 8).map fun i => x / 2 ^ (56 - 8 * i) % 256
/-- the number of bytes ahead of the length in the padding -/
def padSize (n : Nat) : Nat := 64 - (n + 8) % 64
def padL (n : Nat) : List Nat := 128 :: (List.replicate (padSize n - 1) 0 ++ be8 (n * 8 % 18446744073709551616))
theorem padSize_pos (n : Nat) : 1 ≤ padSize n ∧ padSize n ≤ 64 := by unfold padSize; omega
theorem padL_length (n : Nat) : (padL n).length = padSize n + 8 := by
  have := padSize_pos n
  simp [padL, be8]; omega
theorem padL_mod (n : Nat) : (n + (padL n).length) % 64 = 0 := by rw [padL_length]; unfold padSize; omega

/-- block i of a message -/
def blk (m : List Nat) (i : Nat) : List Nat := (m.drop (64 * i)).take 64
/-- the state behind i blocks of a message -/
def states (st m : List Nat) : Nat → List Nat
  | 0 => st
  | i + 1 => compress KK (states st m i) (blk m i)
def digest (st : List Nat) : List Nat := (List.range 32).map fun i => st.getD (i / 4) 0 / 2 ^ (24 - 8 * (i % 4)) % 256
def padded (m : List Nat) : List Nat := m ++ padL m.length
/-- THE DIGEST OF A MESSAGE -/
def sha (m : List Nat) : List Nat := digest (states HH (padded m) ((padded m).length / 64))

theorem Bytes.of_mem {l : List Nat} (h : ∀ x ∈ l, x < 256) : Bytes l := by
  intro i
  rcases Nat.lt_or_ge i l.length with hi | hi
  · rw [List.getD_eq_getElem?_getD, List.getElem?_eq_getElem hi]; exact h _ (List.getElem_mem hi)
  · rw [List.getD_eq_getElem?_getD, List.getElem?_eq_none hi]; simp
theorem Bytes.mem {l : List Nat} (h : Bytes l) : ∀ x ∈ l, x < 256 := by
  intro x hx
  obtain ⟨i, hi, rfl⟩ := List.getElem_of_mem hx
  have := h i
  rwa [List.getD_eq_getElem?_getD, List.getElem?_eq_getElem hi] at this
theorem Bytes.append {l r : List Nat} (hl : Bytes l) (hr : Bytes r) : Bytes (l ++ r) :=
  Bytes.of_mem fun x hx => by exact (List.mem_append.1 hx).elim (hl.mem x) (hr.mem x)
theorem Bytes.take {l : List Nat} (hl : Bytes l) (n : Nat) : Bytes (l.take n) := Bytes.of_mem fun x hx => hl.mem x (List.mem_of_mem_take hx)
theorem Bytes.drop {l : List Nat} (hl : Bytes l) (n : Nat) : Bytes (l.drop n) := Bytes.of_mem fun x hx => hl.mem x (List.mem_of_mem_drop hx)
theorem Bytes.nil : Bytes [] := Bytes.of_mem fun x hx => by simp at hx
theorem Bytes.blk {m : List Nat} (h : Bytes m) (i : Nat) : Bytes (blk m i) := (h.drop _).take _
theorem Bytes.padL (n : Nat) : Bytes (padL n) := by
  refine Bytes.of_mem fun x hx => ?_
  simp only [YtediocpdpghbfaaDoor.padL, be8, List.mem_cons, List.mem_append, List.mem_replicate, List.mem_map] at hx
  rcases hx with rfl | ⟨_, rfl⟩ | ⟨i, _, rfl⟩
  · omega
  · omega
  · exact Nat.mod_lt _ (by omega)
theorem Bytes.digest (st : List Nat) : Bytes (digest st) := by
  refine Bytes.of_mem fun x hx => ?_
  simp only [YtediocpdpghbfaaDoor.digest, List.mem_map] at hx
  obtain ⟨i, _, rfl⟩ := hx
  exact Nat.mod_lt _ (by omega)
theorem Bytes.sha (m : List Nat) : Bytes (sha m) := Bytes.digest _
theorem sha_length (m : List Nat) : (sha m).length = 32 := by simp [sha, digest]

theorem addUp_words (v s : List Nat) : Words (addUp v s) := by
  refine words_of_mem fun x hx => ?_
  simp only [addUp, List.mem_map] at hx
  obtain ⟨i, _, rfl⟩ := hx
  exact Nat.mod_lt _ (by omega)
theorem compress_words (K s b : List Nat) : Words (compress K s b) := addUp_words _ _
theorem compress_length (K s b : List Nat) : (compress K s b).length = 8 := by simp [compress, addUp]
theorem states_words {st : List Nat} (h : Words st) (m : List Nat) (i : Nat) : Words (states st m i) := by
  cases i with
  | zero => exact h
  | succ i => exact compress_words _ _ _
theorem states_length {st : List Nat} (h : st.length = 8) (m : List Nat) (i : Nat) : (states st m i).length = 8 := by
  cases i with
  | zero => exact h
  | succ i => exact compress_length _ _ _
theorem blk_append (m x : List Nat) (i : Nat) (h : 64 * (i + 1) ≤ m.length) : blk (m ++ x) i = blk m i := by
  simp only [blk]
  rw [List.drop_append_of_le_length (by omega), List.take_append_of_le_length (by rw [List.length_drop]; omega)]
theorem states_append (st m x : List Nat) (i : Nat) (h : 64 * i ≤ m.length) : states st (m ++ x) i = states st m i := by
  induction i with
  | zero => rfl
  | succ i ih => rw [states, states, ih (by omega), blk_append _ _ _ h]

/-! ### the known digests, by the kernel -/
theorem sha_nil : sha [] = [0xe3, 0xb0, 0xc4, 0x42, 0x98, 0xfc, 0x1c, 0x14, 0x9a, 0xfb, 0xf4, 0xc8, 0x99, 0x6f, 0xb9, 0x24, 0x27, 0xae, 0x41, 0xe4, 0x64, 0x9b, 0x93, 0x4c, 0xa4, 0x95, 0x99, 0x1b, 0x78, 0x52, 0xb8, 0x55] := by decide +kernel
theorem sha_abc : sha [97, 98, 99] = [0xba, 0x78, 0x16, 0xbf, 0x8f, 0x01, 0xcf, 0xea, 0x41, 0x41, 0x40, 0xde, 0x5d, 0xae, 0x22, 0x23, 0xb0, 0x03, 0x61, 0xa3, 0x96, 0x17, 0x7a, 0x9c, 0xb4, 0x10, 0xff, 0x61, 0xf2, 0x00, 0x15, 0xad] := by decide +kernel
end Go.Proofs.YtediocpdpghbfaaDoor
namespace Go.Proofs.YtediocpdpghbfaaDoor
open Go Go.RowKit

theorem run_make_rowN {P : Program} (t e : TypeId) (i : TypeInfo) (z : Value) (ht : P.underlying t = some (.slice e)) (hi : P.info? e = some i) (hz : i.zero = some z)
    (kl kc : IntKind) (n c : Nat) (hnc : n ≤ c) (hbytes : i.bytes * c ≤ 281474976710656) (h63 : c ≤ 9223372036854775807) (w : World) :
    (Instr.makeSlice t (.int kl (n : Int)) (.int kc (c : Int))).run P w = .ok (.slice (some ⟨w.heap.size, 0, none⟩) n c) (w.alloc (.cells (madeCells z.cells (c * i.size)) e)) := by
  have hb : (i.bytes : Int) * (c : Int) ≤ 281474976710656 := by
    have h : ((i.bytes * c : Nat) : Int) ≤ 281474976710656 := by omega
    rwa [Int.natCast_mul] at h
  have hr := run_make (P := P) w t e i z ht hi hz kl kc n c (by omega) (by omega) hb (by omega)
  simp only [Int.toNat_natCast] at hr
  exact hr
theorem info5 : (Tryd.prog.info? 5).map (fun i => (i.zero, i.size, i.bytes)) = some (some (.int .u8 0), 1, 1) := by kernel_rfl
theorem madeCells_u8 (n : Nat) : madeCells (Value.int .u8 0).cells n = u8s (List.replicate n 0) := by
  unfold madeCells u8s
  apply Array.ext'
  simp [Value.cells, Nat.mod_one, List.map_const']
theorem make_bytes (n : Nat) (hn : n ≤ 281474976710656) (w : World) :
    (Instr.makeSlice 22 (.int .i64 (n : Int)) (.int .i64 (n : Int))).run Tryd.prog w = .ok (.slice (some ⟨w.heap.size, 0, none⟩) n n) (w.alloc (.cells (u8s (List.replicate n 0)) 5)) := by
  obtain ⟨i, hi, hz, hs, hb⟩ := info_parts info5
  have := run_make_rowN (P := Tryd.prog) 22 5 i _ Tryd.underlying22 hi hz .i64 .i64 n n (Nat.le_refl _) (by rw [hb]; omega) (by omega) w
  rwa [hs, Nat.mul_one, madeCells_u8] at this

/-- the padding while its last eight bytes are being written -/
def padP (sz x i : Nat) : List Nat := 128 :: (List.replicate (sz - 1) 0 ++ ((be8 x).take i ++ List.replicate (8 - i) 0))
theorem be8_length (x : Nat) : (be8 x).length = 8 := by simp [be8]
theorem padP_length (sz x i : Nat) (h : 1 ≤ sz) (hi : i ≤ 8) : (padP sz x i).length = sz + 8 := by simp [padP, be8_length]; omega
theorem padP_zero (sz x : Nat) (h : 1 ≤ sz) : (List.replicate (sz + 8) 0).set 0 128 = padP sz x 0 := by
  obtain ⟨k, rfl⟩ : ∃ k, sz = k + 1 := ⟨sz - 1, by omega⟩
  rw [show k + 1 + 8 = (k + 8) + 1 by omega, List.replicate_succ, List.set_cons_zero, padP]
  simp only [Nat.add_sub_cancel, List.take_zero, List.nil_append, Nat.sub_zero, List.replicate_append_replicate]
theorem padP_full (sz x : Nat) : padP sz x 8 = 128 :: (List.replicate (sz - 1) 0 ++ be8 x) := by
  rw [padP, List.take_of_length_le (by rw [be8_length]; omega)]; simp
theorem padP_set (sz x i : Nat) (h : 1 ≤ sz) (hi : i < 8) : (padP sz x i).set (sz + i) (x / 2 ^ (56 - 8 * i) % 256) = padP sz x (i + 1) := by
  obtain ⟨k, rfl⟩ : ∃ k, sz = k + 1 := ⟨sz - 1, by omega⟩
  obtain ⟨j, hj⟩ : ∃ j, 8 - i = j + 1 := ⟨7 - i, by omega⟩
  have hb : (be8 x)[i]'(by rw [be8_length]; exact hi) = x / 2 ^ (56 - 8 * i) % 256 := by simp [be8]
  rw [padP, padP, show k + 1 + i = (k + i) + 1 by omega, List.set_cons_succ, hj, show 8 - (i + 1) = j by omega,
    List.set_append_right _ _ (by simp), List.set_append_right _ _ (by simp [be8_length]; omega), List.replicate_succ,
    List.take_succ_eq_append_getElem (by rw [be8_length]; exact hi), hb]
  have e : k + i - (List.replicate (k + 1 - 1) 0).length - ((be8 x).take i).length = 0 := by simp [be8_length]; omega
  rw [e]
  simp
set_option maxRecDepth 100000 in
theorem padding_any (n : Nat) (hn : n ≤ 72057594037927936) (w : World) :
    Calls Tryd.prog 70 #[.int .i64 n] w fun e w' => e = .returned (.slice (some ⟨w.heap.size, 0, none⟩) (padL n).length (padL n).length) ∧ Blk w' w.heap.size 5 (u8s (padL n)) ∧ Below w.heap.size w w' := by
  obtain ⟨sz, hsz⟩ : ∃ sz, padSize n = sz := ⟨_, rfl⟩
  have h1 := padSize_pos n
  have hl := padL_length n
  rw [hsz] at h1 hl
  have hs : (64 - ((n : Int) + 8) % 64) = (sz : Int) := by rw [← hsz]; unfold padSize; omega
  have hmk := make_bytes (sz + 8) (by omega)
  simp only [Int.natCast_add, Int.cast_ofNat_Int] at hmk
  have HS := Lib.hid (And.intro hsz hl); clear hsz hl
  go_enter Tryd.func70, Tryd.ntmps70
  go_wp2_with fail
  go_loopg [15] 8 (fun k i wr => ∃ t : Nat, t + k = 8 ∧ i = .int .i64 t ∧ Blk wr w.heap.size 5 (u8s (padP sz (n * 8) t)) ∧ Below w.heap.size w wr)
  case atStart =>
    refine ⟨0, rfl, rfl, ?_, (Below.refl _ _).alloc (Nat.le_refl _) _⟩
    rw [← padP_zero sz (n * 8) h1.1, ← u8s_set]
    exact Blk.new _ _ _
  case round =>
    obtain ⟨t, htk, rfl, E, B0⟩ := hrel
    have HTK := Lib.hid htk; clear htk
    by_cases ht : t < 8
    · have c := E.u8 (i := sz + t) (by rw [padP_length sz _ _ (by omega) (by omega)]; omega)
      have f := E.frozen (sz + t)
      have hset := padP_set sz (n * 8) t h1.1 ht
      generalize (padP sz (n * 8) t).getD (sz + t) 0 = y at *
      have HSET := Lib.hid hset; clear hset
      have HE := Lib.hid (And.intro E B0); clear E B0
      have b1 : 0 ≤ 56 - 8 * (t : Int) := by omega
      go_wp2_with fail
      go_roundg (gk - 1)
      case measure => have := HTK.out; omega
      case rel =>
        obtain ⟨E, B0⟩ := HE.out
        refine ⟨t + 1, by have := HTK.out; omega, by go_num, ?_, B0.setCell (by simp) _⟩
        have ez : (n : Int) * 8 / 2 ^ (56 - 8 * t) % 256 = ((n * 8 / 2 ^ (56 - 8 * t) % 256 : Nat) : Int) := by
          rw [Int.natCast_emod, Int.natCast_ediv, Int.natCast_pow, Int.natCast_mul]; rfl
        rw [ez]
        exact E.set8 _ _ HSET.out
    · obtain rfl : t = 8 := by have := HTK.out; omega
      clear ht
      have HE := Lib.hid (And.intro E B0); clear E B0
      go_wp2_with fail
      go_ret
      obtain ⟨E, B0⟩ := HE.out
      obtain ⟨hs1, hl⟩ := HS.out
      have hp : padP sz (n * 8) 8 = padL n := by
        rw [padP_full, padL, hs1, Nat.mod_eq_of_lt (by omega)]
      rw [hp] at E
      exact ⟨by rw [hl]; rfl, E, B0⟩

set_option maxRecDepth 100000 in
theorem pad_any (n : Nat) (hn : n ≤ 72057594037927936) (w : World) :
    Calls Tryd.prog 29 #[.int .i64 n] w fun e w' => e = .returned (.tuple #[.slice (some ⟨w.heap.size, 0, none⟩) (padL n).length (padL n).length, .int .i64 0]) ∧ Blk w' w.heap.size 5 (u8s (padL n)) ∧ Below w.heap.size w w' := by
  have h1 : ((n : Int) < 0) = False := by simp
  go_enter Tryd.func29, Tryd.ntmps29
  go_wp2_with fail
  refine (padding_any n hn _).mono ?_; rintro e w1 ⟨rfl, E, B0⟩
  have HE := Lib.hid (And.intro E B0); clear E B0
  go_wp2_with fail
  go_ret2
  exact ⟨rfl, HE.out⟩
theorem pad_bad (n : Int) (hn : n < 0 ∨ 72057594037927936 < n) (w : World) :
    Calls Tryd.prog 29 #[.int .i64 n] w fun e w' => e = .returned (.tuple #[.slice none 0 0, .int .i64 2]) ∧ w' = w := by
  by_cases h : n < 0
  · go_enter Tryd.func29, Tryd.ntmps29
    go_wp2_with fail
    go_ret2
    exact ⟨rfl, rfl⟩
  · have h2 : 72057594037927936 < n := by omega
    have h3 : decide (n < 0) = false := by simpa using h
    go_enter Tryd.func29, Tryd.ntmps29
    go_wp2_with fail
    go_ret2
    exact ⟨rfl, rfl⟩
end Go.Proofs.YtediocpdpghbfaaDoor
namespace Go.Proofs.YtediocpdpghbfaaDoor
open Go Go.RowKit

/-- the cells of a hash: the state, the buffer, the length -/
def hcells (st buf : List Nat) (n : Nat) : Array Value := u32s st ++ u8s buf ++ #[.int .i64 (n : Int)]
/-- block g is a hash to which the bytes m have been written -/
def IsHash (w : World) (g : Nat) (m : List Nat) : Prop :=
  ∃ buf : List Nat, buf.length = 64 ∧ Bytes buf ∧ buf.take (m.length % 64) = m.drop (64 * (m.length / 64)) ∧ Blk w g 104 (hcells (states HH m (m.length / 64)) buf m.length)

theorem IsHash.below {w w' : World} {g B : Nat} {m : List Nat} (h : IsHash w g m) (hb : Below B w w') (hg : g < B) : IsHash w' g m :=
  let ⟨buf, h1, h2, h3, h4⟩ := h; ⟨buf, h1, h2, h3, h4.below hb hg⟩
theorem IsHash.grown {w w' : World} {g : Nat} {m : List Nat} {row : Option Nat} (h : IsHash w g m) (hb : w.grownBy w' row) (hg : some g ≠ row) : IsHash w' g m :=
  let ⟨buf, h1, h2, h3, h4⟩ := h; ⟨buf, h1, h2, h3, h4.grown hb hg⟩
theorem IsHash.lt {w : World} {g : Nat} {m : List Nat} (h : IsHash w g m) : g < w.heap.size := let ⟨_, _, _, _, h4⟩ := h; h4.lt

theorem hcells_size (st buf : List Nat) (n : Nat) (h : st.length = 8) (hb : buf.length = 64) : (hcells st buf n).size = 73 := by
  simp [hcells, u32s_size, u8s_size, h, hb]
theorem hcells_state (st buf : List Nat) (n : Nat) (h : st.length = 8) (j : Nat) (hj : j < 8) : (hcells st buf n)[j]? = (u32s st)[j]? := by
  have h8 : (u32s st).size = 8 := by rw [u32s_size, h]
  rw [hcells, Array.append_assoc, Array.getElem?_append_left (by omega)]
theorem hcells_buf (st buf : List Nat) (n : Nat) (h : st.length = 8) (hb : buf.length = 64) (j : Nat) (hj : j < 64) : (hcells st buf n)[8 + j]? = (u8s buf)[j]? := by
  have h8 : (u32s st).size = 8 := by rw [u32s_size, h]
  have h64 : (u8s buf).size = 64 := by rw [u8s_size, hb]
  rw [hcells, Array.append_assoc, Array.getElem?_append_right (by omega), Array.getElem?_append_left (by omega), h8]
  congr 1; omega
theorem hcells_len (st buf : List Nat) (n : Nat) (h : st.length = 8) (hb : buf.length = 64) : (hcells st buf n)[72]? = some (.int .i64 (n : Int)) := by
  have h8 : (u32s st).size = 8 := by rw [u32s_size, h]
  have h64 : (u8s buf).size = 64 := by rw [u8s_size, hb]
  rw [hcells, Array.getElem?_append_right (by rw [Array.size_append]; omega), Array.size_append, h8, h64]
  rfl
theorem hcells_one (st buf : List Nat) (n : Nat) : (hcells st buf n).all (·.oneCell') = true := by
  simp only [hcells, Array.all_append, u32s_one, u8s_one]; simp [Value.oneCell']

attribute [local go_sem ↓] ld30 ld104 st104
theorem HH_row {w : World} (hT : Tabs w) : (loadAgg 30 (.pointer (some ⟨1, 0, none⟩))).run Tryd.prog w = .ok (.agg (u32s HH)) w := by
  obtain ⟨t, fr, h⟩ := hT.h
  have := loadAgg_run (P := Tryd.prog) (w := w) (ty := 30) (g := 1) (off := 0) (u32s HH).toList Tryd.underlying30 rfl (by kernel_rfl) (fun j v hv => by
    rw [cell_of_row w 1 (0 + j) _ t fr h, Nat.zero_add]; simpa using hv)
  simpa using this

theorem new_built : (Tryd.prog.built 104 [(0, Value.agg (u32s HH))]).getD #[] = hcells HH (List.replicate 64 0) 0 := by kernel_rfl
theorem new_any (w : World) (hT : Tabs w) :
    Calls Tryd.prog 25 #[] w fun e w' => e = .returned (.pointer (some ⟨w.heap.size, 0, none⟩)) ∧ IsHash w' w.heap.size [] ∧ Below w.heap.size w w' := by
  have hr := HH_row hT
  go_enter Tryd.func25, Tryd.ntmps25
  go_wp2_with (refine wpList_build rfl 104 _ rfl (by kernel_rfl) ?_)
  go_ret
  rw [new_built]
  exact ⟨rfl, ⟨List.replicate 64 0, rfl, Bytes.of_mem (by simp), rfl, Blk.new _ _ _⟩, (Below.refl _ _).alloc (Nat.le_refl _) _⟩

theorem len_nil (w : World) : Calls Tryd.prog 27 #[.pointer none] w fun e w' => e = .returned (.int .i64 0) ∧ w = w' := by
  go_enter Tryd.func27, Tryd.ntmps27
  go_wp2
  go_ret
  exact ⟨rfl, rfl⟩
theorem len_any (w : World) (g : Nat) (m : List Nat) (h : IsHash w g m) : Calls Tryd.prog 27 #[.pointer (some ⟨g, 0, none⟩)] w fun e w' => e = .returned (.int .i64 (m.length : Nat)) ∧ w = w' := by
  obtain ⟨buf, h1, h2, h3, h4⟩ := h
  have c := (h4.cell 72).trans (hcells_len _ buf _ (states_length rfl _ _) h1)
  generalize m.length = n at *
  clear h1 h2 h3 h4
  go_enter Tryd.func27, Tryd.ntmps27
  go_wp2
  go_ret
  exact ⟨rfl, rfl⟩

theorem clone_nil (w : World) : Calls Tryd.prog 31 #[.pointer none] w fun e w' => e = .returned (.pointer none) ∧ w = w' := by
  go_enter Tryd.func31, Tryd.ntmps31
  go_wp2
  go_ret
  exact ⟨rfl, rfl⟩
theorem clone_any (w : World) (g : Nat) (m : List Nat) (h : IsHash w g m) :
    Calls Tryd.prog 31 #[.pointer (some ⟨g, 0, none⟩)] w fun e w' => e = .returned (.pointer (some ⟨w.heap.size, 0, none⟩)) ∧ IsHash w' w.heap.size m ∧ Below w.heap.size w w' := by
  obtain ⟨buf, h1, h2, h3, h4⟩ := h
  have hsz := hcells_size (states HH m (m.length / 64)) buf m.length (states_length rfl _ _) h1
  have hone := hcells_one (states HH m (m.length / 64)) buf m.length
  generalize hcs : hcells (states HH m (m.length / 64)) buf m.length = cs at *
  have hld : (loadAgg 104 (.pointer (some ⟨g, 0, none⟩))).run Tryd.prog w = .ok (.agg cs) w := by
    have := loadAgg_run (P := Tryd.prog) (w := w) (ty := 104) (g := g) (off := 0) cs.toList Tryd.underlying104 rfl (by simp only [Array.length_toList, hsz]; kernel_rfl) (fun j v hv => by
      rw [Nat.zero_add, h4.cell]; simpa using hv)
    simpa using this
  have HH := Lib.hid (And.intro hcs (And.intro h4 (And.intro h3 (And.intro h2 h1)))); clear hcs h4 h3 h2 h1
  have HSZ := Lib.hid (And.intro hsz hone); clear hsz hone
  go_enter Tryd.func31, Tryd.ntmps31
  go_wp2_with (refine wpList_store_row rfl 104 (.tmp 3) (.tmp 8) rfl w.heap.size cs rfl rfl 104 _ (Blk.new _ _ _) (by rw [HSZ.out.1]; kernel_rfl) (by rw [HSZ.out.1]; rfl) HSZ.out.2 ?_)
  go_ret
  obtain ⟨hcs, h4, h3, h2, h1⟩ := HH.out
  refine ⟨rfl, ⟨buf, h1, h2, h3, ?_⟩, below_setRow' ((Below.refl _ _).alloc (Nat.le_refl _) _) (Nat.le_refl _) _⟩
  rw [hcs]
  exact (Blk.new _ _ _).setRow _
end Go.Proofs.YtediocpdpghbfaaDoor
namespace Go.Proofs.YtediocpdpghbfaaDoor
open Go Go.RowKit

/-- the slice at address A holds the bytes b, in memory that lies there already, and not in block g -/
def RB (w : World) (g : Nat) (A : Option Addr) (b : List Nat) : Prop :=
  b.length ≠ 0 → ∃ gb off, A = some ⟨gb, off, none⟩ ∧ gb ≠ g ∧ gb < w.heap.size ∧ ∀ j, j < b.length → w.cell? ⟨gb, off + j, none⟩ = some (.int .u8 (b.getD j 0 : Nat))
theorem RB.grown {w w' : World} {g : Nat} {A : Option Addr} {b : List Nat} (h : RB w g A b) (hb : w.grownBy w' (some g)) : RB w' g A b := by
  intro hn
  obtain ⟨gb, off, hA, hne, hlt, hc⟩ := h hn
  exact ⟨gb, off, hA, hne, Nat.lt_of_lt_of_le hlt hb.size, fun j hj => (World.cell?_of_block (hb.block gb hlt (by simpa using hne))).trans (hc j hj)⟩
theorem RB.below {w w' : World} {g : Nat} {A : Option Addr} {b : List Nat} (h : RB w g A b) (hb : Below w.heap.size w w') : RB w' g A b := by
  intro hn
  obtain ⟨gb, off, hA, hne, hlt, hc⟩ := h hn
  exact ⟨gb, off, hA, hne, Nat.lt_of_lt_of_le hlt hb.size, fun j hj => (hb.cell (p := ⟨gb, off + j, none⟩) hlt).trans (hc j hj)⟩

/-- the same bytes, the excluded block another: one that was no block of the first world -/
theorem RB.move {w w' : World} {g g' : Nat} {A : Option Addr} {b : List Nat} (h : RB w g A b) (hb : Below w.heap.size w w') (hg : w.heap.size ≤ g') : RB w' g' A b := by
  intro hn
  obtain ⟨gb, off, hA, hne, hlt, hc⟩ := h hn
  exact ⟨gb, off, hA, by omega, Nat.lt_of_lt_of_le hlt hb.size, fun j hj => (hb.cell (p := ⟨gb, off + j, none⟩) hlt).trans (hc j hj)⟩
/-- the buffer behind a copy -/
def putBuf (buf : List Nat) (u : Nat) (c : List Nat) : List Nat := buf.take u ++ c ++ buf.drop (u + c.length)
theorem putBuf_length (buf : List Nat) (u : Nat) (c : List Nat) (hb : buf.length = 64) (h : u + c.length ≤ 64) : (putBuf buf u c).length = 64 := by
  simp [putBuf, hb]; omega
theorem putBuf_take (buf : List Nat) (u : Nat) (c : List Nat) (hb : buf.length = 64) (h : u + c.length ≤ 64) : (putBuf buf u c).take (u + c.length) = buf.take u ++ c := by
  have : (buf.take u ++ c).length = u + c.length := by simp [hb]; omega
  rw [putBuf, List.take_append_of_le_length (by omega), List.take_of_length_le (by omega)]
theorem putBuf_bytes (buf : List Nat) (u : Nat) (c : List Nat) (hb : Bytes buf) (hc : Bytes c) : Bytes (putBuf buf u c) := ((hb.take _).append hc).append (hb.drop _)

theorem hash_part (w : World) (g : Nat) (M c buf : List Nat) (hl : (putBuf buf (M.length % 64) c).length = 64) (hbuf : buf.length = 64) (hB : Bytes (putBuf buf (M.length % 64) c))
    (htk : buf.take (M.length % 64) = M.drop (64 * (M.length / 64))) (hlt : M.length % 64 + c.length < 64)
    (hblk : Blk w g 104 (hcells (states HH M (M.length / 64)) (putBuf buf (M.length % 64) c) (M.length + c.length))) : IsHash w g (M ++ c) := by
  have e1 : (M ++ c).length / 64 = M.length / 64 := by rw [List.length_append]; omega
  have e2 : (M ++ c).length % 64 = M.length % 64 + c.length := by rw [List.length_append]; omega
  refine ⟨_, hl, hB, ?_, ?_⟩
  · rw [e2, e1, putBuf_take _ _ _ hbuf (by omega), htk, List.drop_append_of_le_length (by omega)]
  · rw [e1, states_append _ _ _ _ (by omega), List.length_append]; exact hblk
theorem hash_full (w : World) (g : Nat) (M c buf : List Nat) (hl : (putBuf buf (M.length % 64) c).length = 64) (hbuf : buf.length = 64) (hB : Bytes (putBuf buf (M.length % 64) c))
    (htk : buf.take (M.length % 64) = M.drop (64 * (M.length / 64))) (hlt : M.length % 64 + c.length = 64)
    (hblk : Blk w g 104 (hcells (compress KK (states HH M (M.length / 64)) (putBuf buf (M.length % 64) c)) (putBuf buf (M.length % 64) c) (M.length + c.length))) : IsHash w g (M ++ c) := by
  have e1 : (M ++ c).length / 64 = M.length / 64 + 1 := by rw [List.length_append]; omega
  have e2 : (M ++ c).length % 64 = 0 := by rw [List.length_append]; omega
  have hbl : blk (M ++ c) (M.length / 64) = putBuf buf (M.length % 64) c := by
    have h := putBuf_take buf (M.length % 64) c hbuf (by omega)
    rw [hlt, List.take_of_length_le (by omega), htk] at h
    rw [h, blk, List.drop_append_of_le_length (by omega), List.take_of_length_le (by simp; omega)]
  refine ⟨_, hl, hB, ?_, ?_⟩
  · rw [e2, e1, List.take_zero, List.drop_eq_nil_of_le (by rw [List.length_append]; omega)]
  · rw [e1, states, states_append _ _ _ _ (by omega), hbl, List.length_append]; exact hblk

theorem write_nil (v : Value) (w : World) : Calls Tryd.prog 26 #[.pointer none, v] w fun e w' => e = .returned (.int .i64 1) ∧ w = w' := by
  go_enter Tryd.func26, Tryd.ntmps26
  go_wp2
  go_ret
  exact ⟨rfl, rfl⟩

theorem cs_src (wr : World) (gb off : Nat) (rest : List Nat) (n : Nat) (cs : List Value) (hcs : cs = (rest.take n).map (fun x : Nat => Value.int .u8 (x : Int))) (hn : n ≤ rest.length)
    (hcells : ∀ j, j < rest.length → wr.cell? ⟨gb, off + j, none⟩ = some (.int .u8 (rest.getD j 0 : Nat))) : ∀ j v, cs[j]? = some v → wr.cell? ((⟨gb, off, none⟩ : Addr).add j) = some v := by
  intro j v hj
  have hjn : j < n := by
    have := (List.getElem?_eq_some_iff.1 hj).1
    rw [hcs] at this; simp at this; omega
  rw [addr_add, hcells j (by omega), ← hj, hcs]
  simp [hjn, List.getD_eq_getElem?_getD, List.getElem?_eq_getElem (show j < rest.length by omega)]
theorem cs_one (rest : List Nat) (n : Nat) (cs : List Value) (hcs : cs = (rest.take n).map (fun x : Nat => Value.int .u8 (x : Int))) : ∀ v ∈ cs, v.oneCell' = true := by
  intro v hv; rw [hcs] at hv; simp only [List.mem_map] at hv; obtain ⟨x, _, rfl⟩ := hv; rfl
theorem hcells_split (st buf : List Nat) (L : Nat) (hst : st.length = 8) (hbuf : buf.length = 64) (u : Nat) (c : List Nat) (hu : u + c.length ≤ 64) :
    ((hcells st buf L).toList.take (8 + u) ++ ((c.map (fun x : Nat => Value.int .u8 (x : Int))) ++ (hcells st buf L).toList.drop (8 + u + c.length))).toArray = hcells st (putBuf buf u c) L := by
  apply Array.ext'
  simp only [hcells, u32s, u8s, putBuf, Array.toList_append, List.map_append, List.map_take, List.map_drop]
  have h1 : (List.map (fun n : Nat => Value.int .u32 (n : Int)) st).length = 8 := by simp [hst]
  have h2 : (List.map (fun n : Nat => Value.int .u8 (n : Int)) buf).length = 64 := by simp [hbuf]
  have e1 : 8 + u - (List.map (fun n : Nat => Value.int .u32 (n : Int)) st).length = u := by omega
  have e2 : 8 + u + c.length - (List.map (fun n : Nat => Value.int .u32 (n : Int)) st).length = u + c.length := by omega
  rw [List.append_assoc, List.take_append, List.drop_append, e1, e2, List.take_of_length_le (l := List.map (fun n : Nat => Value.int .u32 (n : Int)) st) (by omega),
    show List.drop (8 + u + c.length) (List.map (fun n : Nat => Value.int .u32 (n : Int)) st) = [] from List.drop_eq_nil_of_le (by omega), List.take_append_of_le_length (by omega), List.drop_append_of_le_length (by omega)]
  simp
theorem hcells_setLen (st buf : List Nat) (L L' : Nat) (hst : st.length = 8) (hbuf : buf.length = 64) : (hcells st buf L).setIfInBounds 72 (.int .i64 (L' : Int)) = hcells st buf L' := by
  apply Array.ext'
  simp only [hcells, u32s, u8s, Array.toList_setIfInBounds, Array.toList_append]
  rw [List.set_append_right _ _ (by simp [hst, hbuf])]
  simp [hst, hbuf]
theorem hcells_setState (st st' buf : List Nat) (L : Nat) (hst : st.length = 8) (hst' : st'.length = 8) :
    ((hcells st buf L).toList.take 0 ++ (u32s st').toList ++ (hcells st buf L).toList.drop (0 + (u32s st').size)).toArray = hcells st' buf L := by
  apply Array.ext'
  simp only [hcells, u32s_size, hst', List.take_zero, List.nil_append]
  simp only [u32s, u8s, Array.toList_append]
  rw [List.append_assoc, List.append_assoc, List.drop_append_of_le_length (by simp [hst]), List.drop_eq_nil_of_le (by simp [hst])]
  rfl
/-- the copy into the buffer: behind it the world is a new name -/
theorem wpList_copy_buf {w : World} {ops : Array Oper} {rest : List Oper} {o : Oper} {a : Act} {Q : Exit → Act → World → Prop} (hgd : o.guard = none)
    (ho : o.op = .call { callee := .builtin .copy, args := #[.tmp 21, .tmp 22], argTypes := #[22, 22] })
    (g u gb off k cap' : Nat) (hd : a.eval (.tmp 21) = .slice (some ⟨g, 8 + u, none⟩) (64 - u) (64 - u)) (hs : a.eval (.tmp 22) = .slice (some ⟨gb, off, none⟩) k cap')
    (st buf : List Nat) (L : Nat) (hst : st.length = 8) (hbuf : buf.length = 64) (hB : Blk w g 104 (hcells st buf L)) (c rs : List Nat) (n : Nat) (hc : c = rs.take n) (hrs : rs.length = k) (hn : n = min (64 - u) k) (hu : u < 64)
    (hcells' : ∀ j, j < rs.length → w.cell? ⟨gb, off + j, none⟩ = some (.int .u8 (rs.getD j 0 : Nat)))
    (h : ∀ w2, Blk w2 g 104 (hcells st (putBuf buf u c) L) → w.grownBy w2 (some g) → wpList Tryd.prog ops Q rest (a.put o.dst (.int .i64 (n : Int))) w2) : wpList Tryd.prog ops Q (o :: rest) a w := by
  have hcl : c.length = n := by rw [hc, List.length_take]; omega
  have hcl' : (c.map (fun x : Nat => Value.int .u8 (x : Int))).length = n := by simp [hcl]
  refine wpList_copy_own hgd (.tmp 21) (.tmp 22) 22 22 ho 5 Tryd.underlying22 (by kernel_rfl) g (8 + u) (64 - u) (64 - u) ⟨gb, off, none⟩ k cap' hd hs (hcells st buf L) 104 hB
    (c.map (fun x : Nat => Value.int .u8 (x : Int))) (by rw [hcl', hn]; exact Nat.min_comm _ _) (cs_src w gb off rs n _ (by rw [hc]) (by omega) hcells')
    (by rw [hcells_size _ _ _ hst hbuf, hcl']; omega) (cs_one rs n _ (by rw [hc])) ?_
  rw [hcl', ← hcl, hcells_split st buf L hst hbuf u c (by omega), hcl]
  have := h (w.setRow g (hcells st (putBuf buf u c) L)) (hB.setRow _) (grown_setRow (World.grownBy.refl _ _) _)
  exact this
theorem slice_from (gb off k cap n : Nat) (h : n ≤ k) : ∃ A2 : Option Addr, (k - n ≠ 0 → k ≤ cap → A2 = some ⟨gb, off + n, none⟩) ∧
    ∀ w : World, (Instr.slice 22 (.slice (some ⟨gb, off, none⟩) k cap) (some (.int .i64 (n : Int))) none none).run Tryd.prog w = .ok (.slice A2 (k - n) (cap - n)) w := by
  refine ⟨if cap = n then some ⟨gb, off, none⟩ else some ⟨gb, off + n, none⟩, fun h1 h2 => by rw [if_neg (by omega)], fun w => ?_⟩
  have hs : (Tryd.prog.info? 5).map (·.size) = some 1 := by kernel_rfl
  have he : Tryd.prog.elem 22 = 5 := by kernel_rfl
  rw [run_slice_l w 22 _ k cap (by rw [he]; exact Tryd.underlying22) .i64 n (by omega) (by omega)]
  cases hq : Tryd.prog.info? 5 with
  | none => simp [hq] at hs
  | some i =>
    have hi : i.size = 1 := by simpa [hq] using hs
    simp [he, sizeOf, typeInfo, hq, hi, sliced, addr_add]
theorem Tabs.drew {w : World} (h : Tabs w) : Tabs w.drew := ⟨h.two, h.k, h.h⟩
theorem store_state (w3 w4 : World) (g : Nat) (st bf : List Nat) (L : Nat) (st' : List Nat) (hst : st.length = 8) (hbf : bf.length = 64) (hst' : st'.length = 8) (hE : Blk w3 g 104 (hcells st bf L)) (hb : Below w3.drew.heap.size w3.drew w4) :
    (storeAgg 30 (.pointer (some ⟨g, 0, none⟩)) (.agg (u32s st'))).run Tryd.prog w4 = .ok () (w4.setRow g (hcells st' bf L)) := by
  have hE4 : Blk w4 g 104 (hcells st bf L) := hE.drew.below hb hE.drew.lt
  have := storeAgg_run (P := Tryd.prog) (ty := 30) (off := 0) (cur := (hcells st bf L).toList) (u32s st') (by rw [Array.toArray_toList]; exact hE4) (size30l st' hst') (by rw [u32s_size, hst', Array.length_toList, hcells_size _ _ _ hst hbf]; omega) (u32s_one _)
  rw [this, hcells_setState _ _ _ _ hst hst']
theorem rb_drop (w : World) (g gb off n : Nat) (rest : List Nat) (A2 : Option Addr) (hne : gb ≠ g) (hlt : gb < w.heap.size) (hA : (rest.drop n).length ≠ 0 → A2 = some ⟨gb, off + n, none⟩)
    (hc : ∀ j, j < rest.length → w.cell? ⟨gb, off + j, none⟩ = some (.int .u8 (rest.getD j 0 : Nat))) : RB w g A2 (rest.drop n) := by
  intro h
  refine ⟨gb, off + n, hA h, hne, hlt, fun j hj => ?_⟩
  have := hc (n + j) (by rw [List.length_drop] at hj; omega)
  rw [show off + n + j = off + (n + j) by omega, this]
  simp [List.getD_eq_getElem?_getD]
attribute [local go_sem ↓] ld30 ld37 st30
set_option maxRecDepth 100000 in
theorem write_any (w : World) (hT : Tabs w) (g : Nat) (hg2 : 2 ≤ g) (m xs : List Nat) (hm : IsHash w g m) (A : Option Addr) (cap : Nat) (hcap : xs.length ≤ cap) (hX : Bytes xs) (hr : RB w g A xs)
    (hmax : m.length + xs.length ≤ 1152921504606846976) :
    Calls Tryd.prog 26 #[.pointer (some ⟨g, 0, none⟩), .slice A xs.length cap] w fun e w' => e = .returned (.int .i64 0) ∧ IsHash w' g (m ++ xs) ∧ w.grownBy w' (some g) := by
  have H0 := Lib.hid (And.intro hT (And.intro hm (And.intro hr hX))); clear hT hm hr hX
  have hx1 : xs.length ≤ 1152921504606846976 := by omega
  go_enter Tryd.func26, Tryd.ntmps26
  go_wp2_with fail
  go_loopg [1] xs.length (fun k v wr => ∃ (p rest : List Nat) (A' : Option Addr) (cap' : Nat), xs = p ++ rest ∧ rest.length = k ∧ v = .slice A' k cap' ∧ k ≤ cap' ∧ RB wr g A' rest ∧
    IsHash wr g (m ++ p) ∧ w.grownBy wr (some g) ∧ Tabs wr)
  case atStart =>
    obtain ⟨hT, hm, hr, hX⟩ := H0.out
    exact ⟨[], xs, A, cap, rfl, rfl, rfl, hcap, hr, by simpa using hm, World.grownBy.refl _ _, hT⟩
  case round =>
    obtain ⟨p, rest, A', cap', hxs, hk, rfl, hkc, hr', hm', G, hT'⟩ := hrel
    by_cases h0 : gk = 0
    · subst h0
      obtain rfl : rest = [] := List.eq_nil_of_length_eq_zero hk
      rw [List.append_nil] at hxs
      have HE := Lib.hid (And.intro hxs (And.intro hm' G)); clear hxs hm' G hr' hT' H0
      go_wp2_with fail
      go_ret
      obtain ⟨hxs, hm', G⟩ := HE.out
      rw [hxs]
      exact ⟨rfl, hm', G⟩
    · have hlen : (m ++ p).length + rest.length = m.length + xs.length := by rw [hxs]; simp; omega
      have hRB : Bytes rest := by
        have h := H0.out.2.2.2; rw [hxs] at h
        exact Bytes.of_mem fun x hx => h.mem x (List.mem_append_right _ hx)
      generalize hM : m ++ p = M at *
      obtain ⟨buf, hb1, hb2, hb3, hb4⟩ := hm'
      obtain ⟨gb, off, rfl, hne, hgl, hcel⟩ := hr' (by omega)
      have cl := (hb4.cell 72).trans (hcells_len _ buf _ (states_length rfl _ _) hb1)
      have fl := hb4.frozen 72
      obtain ⟨u, hu⟩ : ∃ u, u = M.length % 64 := ⟨_, rfl⟩
      have hu64 : u < 64 := by omega
      have huI : (M.length : Int) % 64 = (u : Int) := by omega
      obtain ⟨n, hn⟩ : ∃ n, n = min (64 - u) gk := ⟨_, rfl⟩
      have n1 : 1 ≤ n := by omega
      have n2 : n ≤ gk := by omega
      have n3 : u + n ≤ 64 := by omega
      obtain ⟨c, hc⟩ : ∃ c : List Nat, c = rest.take n := ⟨_, rfl⟩
      have hcl : c.length = n := by rw [hc, List.length_take]; omega
      have hL : M.length + gk ≤ 1152921504606846976 := by omega
      have hstl : (states HH M (M.length / 64)).length = 8 := states_length rfl _ _
      have hbl := putBuf_length buf u c hb1 (by omega)
      have hcB : Bytes c := by rw [hc]; exact hRB.take _
      have hbb := putBuf_bytes buf u c hb2 hcB
      have hsw : Words (states HH M (M.length / 64)) := states_words words_HH _ _
      generalize hst : states HH M (M.length / 64) = st at *
      generalize hLL : M.length = L at *
      have HC := Lib.hid (And.intro hb4 (And.intro hc (And.intro hk (And.intro hn (And.intro hcel (And.intro hstl (And.intro hb1 (And.intro hbl (And.intro hbb hsw)))))))))
      have HD := Lib.hid (And.intro hxs (And.intro hb3 (And.intro hu (And.intro hM (And.intro G (And.intro hT' (And.intro hr' (And.intro hst (And.intro hLL (And.intro hcl H0.out))))))))))
      clear hb4 hc hk hn hcel hstl hb1 hbl hbb hsw hxs hb2 hb3 hu hcl hcB hM hRB G hT' hlen H0 hr' hst hLL
      have u64 : (u : Int) ≤ 64 := by omega
      have u0 : 0 ≤ (u : Int) := by omega
      obtain ⟨A2, hA2, hsl⟩ := slice_from gb off gk cap' n n2
      have HA := Lib.hid hA2; clear hA2
      by_cases hful : u + n = 64
      · have hfb : ((u : Int) + n == 64) = true := by rw [beq_iff_eq]; omega
        have HF := Lib.hid hful; clear hful
        go_wp2_with (refine wpList_copy_buf rfl rfl g u gb off gk cap' rfl rfl st buf L HC.out.2.2.2.2.2.1 HC.out.2.2.2.2.2.2.1 HC.out.1 c rest n HC.out.2.1 HC.out.2.2.1 HC.out.2.2.2.1 hu64 HC.out.2.2.2.2.1 ?_; intro w2 E2 G2; have cl2 := (E2.cell 72).trans (hcells_len _ _ _ HC.out.2.2.2.2.2.1 HC.out.2.2.2.2.2.2.2.1); have fl2 := E2.frozen 72; have HE2 := Lib.hid (And.intro E2 G2); clear E2 G2)
        generalize hw3 : w2.setCell ⟨g, 72, none⟩ (.int .i64 ((L : Int) + n)) = w3
        obtain ⟨hb4, hc, hk, hn, hcel, hstl, hb1, hbl, hbb, hsw⟩ := HC.out
        obtain ⟨E2, G2⟩ := HE2.out
        have E3 : Blk w3 g 104 (hcells st (putBuf buf u c) (L + n)) := by
          have h := E2.set_ 72 (.int .i64 ((L + n : Nat) : Int))
          rw [hcells_setLen _ _ _ _ hstl hbl] at h
          rw [← hw3]; exact h
        have G3 : wr.grownBy w3 (some g) := by rw [← hw3]; exact grown_setCell G2 _ _
        have hT3 : Tabs w3 := (HD.out.2.2.2.2.2.1).grown G3 hg2
        have l1 : ∀ k, (loadAgg 30 (.pointer (some ⟨g, 0, none⟩))).run Tryd.prog (w3.drewN k) = .ok (.agg (u32s st)) (w3.drewN k) := fun k => by
          have := loadAgg_run (P := Tryd.prog) (w := w3.drewN k) (ty := 30) (g := g) (off := 0) (u32s st).toList Tryd.underlying30 rfl (by simp only [Array.length_toList, u32s_size, hstl]; kernel_rfl) (fun j v hv => by
            rw [Nat.zero_add, (E3.drewN k).cell, hcells_state _ _ _ hstl j (by have := (List.getElem?_eq_some_iff.1 hv).1; simpa [u32s_size, hstl] using this)]; simpa using hv)
          simpa using this
        have l2 : ∀ k, (loadAgg 37 (.pointer (some ⟨g, 8, none⟩))).run Tryd.prog (w3.drewN k) = .ok (.agg (u8s (putBuf buf u c))) (w3.drewN k) := fun k => by
          have := loadAgg_run (P := Tryd.prog) (w := w3.drewN k) (ty := 37) (g := g) (off := 8) (u8s (putBuf buf u c)).toList Tryd.underlying37 rfl (by simp only [Array.length_toList, u8s_size, hbl]; kernel_rfl) (fun j v hv => by
            rw [(E3.drewN k).cell, hcells_buf _ _ _ hstl hbl j (by have := (List.getElem?_eq_some_iff.1 hv).1; simpa [u8s_size, hbl] using this)]; simpa using hv)
          simpa using this
        have l1' : (loadAgg 30 (.pointer (some ⟨g, 0, none⟩))).run Tryd.prog w3.drew = .ok (.agg (u32s st)) w3.drew := l1 1
        have l2' : (loadAgg 37 (.pointer (some ⟨g, 8, none⟩))).run Tryd.prog w3.drew = .ok (.agg (u8s (putBuf buf u c))) w3.drew := l2 1
        clear l1 l2
        generalize hbf : putBuf buf u c = bf at *
        have HBF := Lib.hid hbf; clear hbf
        have H3 := Lib.hid (And.intro E3 (And.intro G3 hT3)); clear E3 G3 hT3 hw3 hb4 hc hk hn hcel E2 G2 HE2
        go_region_with (go_at_call 23; refine (compress_any st bf HC.out.2.2.2.2.2.1 HC.out.2.2.2.2.2.2.2.2.2 HC.out.2.2.2.2.2.2.2.1 HC.out.2.2.2.2.2.2.2.2.1 w3.drew (H3.out.2.2.drew)).mono ?_; rintro e w4 ⟨rfl, B4⟩; have hst4 := store_state w3 w4 g st bf (L + n) (compress KK st bf) HC.out.2.2.2.2.2.1 HC.out.2.2.2.2.2.2.2.1 (compress_length _ _ _) H3.out.1 B4; have HB4 := Lib.hid B4; clear B4)
        all_goals
          go_wp2_with fail
          go_roundg (gk - n)
          case measure => omega
          case rel =>
            obtain ⟨hb4, hc, hk, hn, hcel, hstl, hb1, hbl, hbb, hsw⟩ := HC.out
            obtain ⟨hxs, hb3, hu, hM, G, hT', hr', hst, hLL, hcl, hT, hm, hr, hX⟩ := HD.out
            obtain ⟨E3, G3, hT3⟩ := H3.out
            have hful := HF.out
            have hbf := HBF.out
            subst hst hLL hu hbf
            have E4 : Blk w4 g 104 (hcells (states HH M (M.length / 64)) (putBuf buf (M.length % 64) c) (M.length + n)) := E3.drew.below HB4.out E3.drew.lt
            have G5 : w.grownBy (w4.setRow g (hcells (compress KK (states HH M (M.length / 64)) (putBuf buf (M.length % 64) c)) (putBuf buf (M.length % 64) c) (M.length + n))) (some g) :=
              grown_setRow (grown_below (grown_drewN (grown_trans G G3) 1) HB4.out (Nat.le_trans G.size G3.size)) _
            have E5 := E4.setRow (hcells (compress KK (states HH M (M.length / 64)) (putBuf buf (M.length % 64) c)) (putBuf buf (M.length % 64) c) (M.length + n))
            have h6 := hash_full (w4.setRow g (hcells (compress KK (states HH M (M.length / 64)) (putBuf buf (M.length % 64) c)) (putBuf buf (M.length % 64) c) (M.length + n))) g M c buf hbl hb1 hbb hb3 (by omega) (by rw [hcl]; exact E5)
            refine ⟨p ++ c, rest.drop n, A2, cap' - n, ?_, by rw [List.length_drop, hk], rfl, by omega, ?_, ?_, G5, hT.grown G5 hg2⟩
            · rw [List.append_assoc, hc, List.take_append_drop]; exact hxs
            · have hgl4 : gb < w4.heap.size := Nat.lt_of_lt_of_le (Nat.lt_of_lt_of_le hgl G3.size) HB4.out.size
              refine rb_drop _ g gb off n rest A2 hne (by simpa using hgl4) (fun h => HA.out (by rw [List.length_drop] at h; omega) hkc) (fun j hj => ?_)
              rw [World.cell?_of_block (w := w4) (setRow_other w4 g gb _ hne), HB4.out.cell (p := ⟨gb, off + j, none⟩) (Nat.lt_of_lt_of_le hgl G3.size)]
              exact (World.cell?_of_block (w := wr) (G3.block gb hgl (by simpa using hne))).trans (hcel j hj)
            · rw [← List.append_assoc, hM]; exact h6
      · have hfb : ((u : Int) + n == 64) = false := by rw [beq_eq_false_iff_ne]; omega
        have HF := Lib.hid hful; clear hful
        go_wp2_with (refine wpList_copy_buf rfl rfl g u gb off gk cap' rfl rfl st buf L HC.out.2.2.2.2.2.1 HC.out.2.2.2.2.2.2.1 HC.out.1 c rest n HC.out.2.1 HC.out.2.2.1 HC.out.2.2.2.1 hu64 HC.out.2.2.2.2.1 ?_; intro w2 E2 G2; have cl2 := (E2.cell 72).trans (hcells_len _ _ _ HC.out.2.2.2.2.2.1 HC.out.2.2.2.2.2.2.2.1); have fl2 := E2.frozen 72; have HE2 := Lib.hid (And.intro E2 G2); clear E2 G2)
        go_roundg (gk - n)
        case measure => omega
        case rel =>
          obtain ⟨hb4, hc, hk, hn, hcel, hstl, hb1, hbl, hbb, hsw⟩ := HC.out
          obtain ⟨hxs, hb3, hu, hM, G, hT', hr', hst, hLL, hcl, hT, hm, hr, hX⟩ := HD.out
          obtain ⟨E2, G2⟩ := HE2.out
          have hful := HF.out
          subst hst hLL hu
          have G3 : w.grownBy (w2.setCell ⟨g, 72, none⟩ (.int .i64 ((M.length : Int) + n))) (some g) := grown_setCell (grown_trans G G2) _ _
          have E3 : Blk (w2.setCell ⟨g, 72, none⟩ (.int .i64 ((M.length : Int) + n))) g 104 (hcells (states HH M (M.length / 64)) (putBuf buf (M.length % 64) c) (M.length + c.length)) := by
            have h := E2.set_ 72 (.int .i64 ((M.length + c.length : Nat) : Int))
            rw [hcells_setLen _ _ _ _ hstl hbl] at h
            rw [← hcl]
            exact h
          have h6 := hash_part _ g M c buf hbl hb1 hbb hb3 (by omega) E3
          have hT3 := hT.grown G3 hg2
          refine ⟨p ++ c, rest.drop n, A2, cap' - n, ?_, by rw [List.length_drop, hk], rfl, by omega, ?_, ?_, G3, hT3⟩
          · rw [List.append_assoc, hc, List.take_append_drop]; exact hxs
          · exact rb_drop _ g gb off n rest A2 hne (Nat.lt_of_lt_of_le hgl (by simpa [World.setCell] using G2.size)) (fun h => HA.out (by rw [List.length_drop] at h; omega) hkc)
              (fun j hj => (World.cell?_of_block ((grown_setCell G2 72 _).block gb hgl (by simpa using hne))).trans (hcel j hj))
          · rw [← List.append_assoc, hM]; exact h6
end Go.Proofs.YtediocpdpghbfaaDoor
namespace Go.Proofs.YtediocpdpghbfaaDoor
open Go Go.RowKit

/-- the digest while it is being written -/
def digP (st : List Nat) (q : Nat) : List Nat := (digest st).take q ++ List.replicate (32 - q) 0
theorem digest_length (st : List Nat) : (digest st).length = 32 := by simp [digest]
theorem digP_length (st : List Nat) (q : Nat) (h : q ≤ 32) : (digP st q).length = 32 := by simp [digP, digest_length]; omega
theorem digP_full (st : List Nat) : digP st 32 = digest st := by rw [digP, List.take_of_length_le (by rw [digest_length]; omega)]; simp
theorem digP_set (st : List Nat) (i k : Nat) (hi : i < 8) (hk : k < 4) : (digP st (4 * i + k)).set (4 * i + k) (st.getD i 0 / 2 ^ (24 - 8 * k) % 256) = digP st (4 * i + k + 1) := by
  have hq : 4 * i + k < 32 := by omega
  have hb : (digest st)[4 * i + k]'(by rw [digest_length]; exact hq) = st.getD i 0 / 2 ^ (24 - 8 * k) % 256 := by
    simp only [digest, List.getElem_map, List.getElem_range]
    rw [show (4 * i + k) / 4 = i by omega, show (4 * i + k) % 4 = k by omega]
  generalize 4 * i + k = q at *
  obtain ⟨j, hj⟩ : ∃ j, 32 - q = j + 1 := ⟨31 - q, by omega⟩
  rw [digP, digP, hj, show 32 - (q + 1) = j by omega, List.set_append_right _ _ (by simp [digest_length]; omega), List.replicate_succ,
    List.take_succ_eq_append_getElem (by rw [digest_length]; exact hq), hb]
  have e : q - ((digest st).take q).length = 0 := by simp [digest_length]; omega
  rw [e]
  simp

theorem sha_states (m : List Nat) : states HH (m ++ padL m.length) ((m ++ padL m.length).length / 64) = states HH (padded m) ((padded m).length / 64) := rfl

theorem run_index_state (l : List Nat) (hl : l.length = 8) (i : Nat) (hi : i < 8) (w : World) :
    (Instr.index 30 (.agg (u32s l)) (.int .i64 (i : Int))).run Tryd.prog w = .ok (.int .u32 (l.getD i 0 : Nat)) w := by
  have h1 := u32s_at l i (by omega)
  have hs := size28
  cases hq : Tryd.prog.info? 28 with
  | none => simp [hq] at hs
  | some j =>
    have hj : j.size = 1 := by simpa [hq] using hs
    simp [Instr.index, asIntOf, run_underlying Tryd.underlying30, run_underlying Tryd.underlying28, Go.part, isAgg, sizeOf, typeInfo, hq, hj, h1, hi]
theorem size25 (l : List Nat) (h : l.length = 32) : (Tryd.prog.info? 25).map (·.size) = some (u8s l).size := by
  rw [u8s_size, h]; kernel_rfl

attribute [local go_sem ↓] ld25 st25
theorem msum_nil (w : World) : Calls Tryd.prog 28 #[.pointer none] w fun e w' => e = .returned (.agg (u8s (List.replicate 32 0))) ∧ Below w.heap.size w w' := by
  go_enter Tryd.func28, Tryd.ntmps28
  go_wp2_with (first
    | (refine wpList_load_row rfl 25 (.tmp 3) rfl (w.heap.size + 1) rfl 25 (u8s (List.replicate 32 0)) (0, 0) _ (Blk.new1 _ _ _ _) Tryd.underlying25 rfl (size25 _ rfl) ?_)
    | (refine wpList_store_row rfl 25 (.tmp 2) (.tmp 10) rfl w.heap.size (u8s (List.replicate 32 0)) rfl rfl 25 (u8s (List.replicate 32 0)) ((Blk.new _ _ _).alloc _) (size25 _ rfl) rfl (u8s_one _) ?_))
  exact bodyPost_ret (v := .agg (u8s (List.replicate 32 0))) (results_cell_row rfl _ _ w.heap.size 25 _ (0, 0) _ rfl (((Blk.new _ _ _).alloc _).setRow _) Tryd.underlying25 rfl (size25 _ rfl)) rfl
    ⟨rfl, below_setRow' (((Below.refl _ _).alloc (Nat.le_refl _) _).alloc (by simp) _) (Nat.le_refl _) _⟩

attribute [local go_sem ↓] ld30
set_option maxRecDepth 100000 in
theorem msum_any (w : World) (hT : Tabs w) (g : Nat) (m : List Nat) (hm : IsHash w g m) (hlen : m.length ≤ 72057594037927936) :
    Calls Tryd.prog 28 #[.pointer (some ⟨g, 0, none⟩)] w fun e w' => e = .returned (.agg (u8s (sha m))) ∧ Below w.heap.size w w' := by
  have hg := hm.lt
  have H0 := Lib.hid (And.intro hT hm); clear hT hm
  go_enter Tryd.func28, Tryd.ntmps28
  go_wp2_with fail
  obtain ⟨W2, hW2⟩ : ∃ W2, W2 = (w.alloc (.cells (u8s (List.replicate 32 0)) 25)).alloc (.cells (u8s (List.replicate 32 0)) 25) := ⟨_, rfl⟩
  change Calls _ _ _ ((w.alloc (.cells (u8s (List.replicate 32 0)) 25)).alloc (.cells (u8s (List.replicate 32 0)) 25)) _
  rw [← hW2]
  have hsz : W2.heap.size = w.heap.size + 1 + 1 := by rw [hW2]; simp
  have F1 : Blk W2 w.heap.size 25 (u8s (List.replicate 32 0)) := by rw [hW2]; exact (Blk.new _ _ _).alloc _
  have F2 : Blk W2 (w.heap.size + 1) 25 (u8s (List.replicate 32 0)) := by rw [hW2]; exact Blk.new1 _ _ _ _
  have F3 : Below w.heap.size w W2 := by rw [hW2]; exact ((Below.refl _ _).alloc (Nat.le_refl _) _).alloc (by simp) _
  have F4 : IsHash W2 g m := H0.out.2.below F3 hg
  have F5 : Tabs W2 := H0.out.1.below F3 H0.out.1.two
  clear hW2
  have hs1 : w.heap.size + 1 < W2.heap.size := by omega
  have hs2 : W2.heap.size ≤ w.heap.size + 1 + 1 := by omega
  clear hsz
  refine (clone_any W2 g m F4).mono ?_; rintro e w3 ⟨rfl, C1, C2⟩
  have F4' := F4.below C2 F4.lt
  have F5' := F5.below C2 F5.two
  have HA := Lib.hid (And.intro F1 (And.intro F2 (And.intro F3 (And.intro C1 (And.intro C2 F5'))))); clear F1 F2 F3 F4 F5 C1 C2 F5'
  obtain ⟨buf, h1, h2, h3, h4⟩ := F4'
  have cl := (h4.cell 72).trans (hcells_len _ buf _ (states_length rfl _ _) h1)
  clear h1 h2 h3 h4
  go_wp2_with fail
  refine (padding_any m.length hlen w3).mono ?_; rintro e w4 ⟨rfl, P1, P2⟩
  have g3 : W2.heap.size < w3.heap.size := HA.out.2.2.2.1.lt
  have C3 := HA.out.2.2.2.1.below P2 g3
  have T3 := HA.out.2.2.2.2.2.below P2 HA.out.2.2.2.2.2.two
  have hp : RB w4 W2.heap.size (some ⟨w3.heap.size, 0, none⟩) (padL m.length) := fun _ => ⟨_, 0, rfl, by omega, P1.lt, fun j hj => by rw [Nat.zero_add]; exact P1.u8 hj⟩
  have hpl := padL_length m.length
  have hps := padSize_pos m.length
  have HB := Lib.hid (And.intro P1 (And.intro P2 (And.intro C3 (And.intro T3 (And.intro hp hpl))))); clear P1 P2 C3 T3 hp hpl
  go_wp2_with fail
  refine (write_any w4 HB.out.2.2.2.1 W2.heap.size (by have := H0.out.1.two; omega) m (padL m.length) HB.out.2.2.1 _ _ (Nat.le_refl _) (Bytes.padL _) HB.out.2.2.2.2.1 (by rw [HB.out.2.2.2.2.2]; omega)).mono ?_
  rintro e w5 ⟨rfl, I5, G5⟩
  have g5 : w.heap.size + 1 + 1 ≤ w4.heap.size := by have := HB.out.1.lt; omega
  obtain ⟨F1, F2, F3, C1, C2, T0⟩ := HA.out
  obtain ⟨P1, P2, C3, T3, hp, hpl⟩ := HB.out
  have K1 : Blk w5 w.heap.size 25 (u8s (List.replicate 32 0)) := ((F1.below C2 (by omega)).below P2 (by omega)).grown G5 (by simp; omega)
  have K2 : Blk w5 (w.heap.size + 1) 25 (u8s (digP (states HH (padded m) ((padded m).length / 64)) 0)) := ((F2.below C2 (by omega)).below P2 (by omega)).grown G5 (by simp; omega)
  have K3 : Below w.heap.size w w5 := (F3.trans ((C2.mono (by omega)).trans (P2.mono (by omega)))).grown G5 (by omega) (fun k hk => by injection hk with hk; omega)
  obtain ⟨buf', h1, h2, h3, h4⟩ := I5
  rw [sha_states] at h4
  have hstl : (states HH (padded m) ((padded m).length / 64)).length = 8 := states_length rfl _ _
  have hsw : Words (states HH (padded m) ((padded m).length / 64)) := states_words words_HH _ _
  have hsha : sha m = digest (states HH (padded m) ((padded m).length / 64)) := rfl
  generalize states HH (padded m) ((padded m).length / 64) = st at *
  have ld : (loadAgg 30 (.pointer (some ⟨W2.heap.size, 0, none⟩))).run Tryd.prog w5 = .ok (.agg (u32s st)) w5 := by
    have := loadAgg_run (P := Tryd.prog) (w := w5) (ty := 30) (g := W2.heap.size) (off := 0) (u32s st).toList Tryd.underlying30 rfl (by simp only [Array.length_toList, u32s_size, hstl]; kernel_rfl) (fun j v hv => by
      rw [Nat.zero_add, h4.cell, hcells_state _ _ _ hstl j (by have := (List.getElem?_eq_some_iff.1 hv).1; simpa [u32s_size, hstl] using this)]; simpa using hv)
    simpa using this
  have HC := Lib.hid (And.intro K1 (And.intro K2 (And.intro K3 (And.intro hsha hstl))))
  clear K1 K2 K3 h1 h2 h3 h4 F1 F2 F3 C1 C2 T0 P1 P2 C3 T3 hp hpl G5 HA HB H0 hsha cl hps g3 g5
  go_wp2_with fail
  go_loopg [24] 8 (fun k i wr => ∃ t : Nat, t + k = 8 ∧ i = .int .i64 t ∧ Blk wr w.heap.size 25 (u8s (List.replicate 32 0)) ∧ Blk wr (w.heap.size + 1) 25 (u8s (digP st (4 * t))) ∧ Below w.heap.size w wr)
  case atStart => obtain ⟨K1, K2, K3, _⟩ := HC.out; exact ⟨0, rfl, rfl, K1, K2, K3⟩
  case round =>
    obtain ⟨t, htk, rfl, K1, K2, K3⟩ := hrel
    have HTK := Lib.hid htk; clear htk
    obtain ⟨wo, rfl⟩ : ∃ wo : World, wo = wr := ⟨_, rfl⟩
    obtain ⟨ko, rfl⟩ : ∃ ko : Nat, ko = gk := ⟨_, rfl⟩
    by_cases ht : t < 8
    · have hix := run_index_state st HC.out.2.2.2.2 t ht
      have lx := hsw t
      generalize hx : st.getD t 0 = x at *
      have HX := Lib.hid hx; clear hx
      have HE := Lib.hid (And.intro K1 (And.intro K2 K3)); clear K1 K2 K3
      go_wp2_with fail
      go_loopg [28] 4 (fun k i wr => ∃ q : Nat, q + k = 4 ∧ i = .int .i64 q ∧ Blk wr w.heap.size 25 (u8s (List.replicate 32 0)) ∧ Blk wr (w.heap.size + 1) 25 (u8s (digP st (4 * t + q))) ∧ Below w.heap.size w wr)
      case atStart => obtain ⟨K1, K2, K3⟩ := HE.out; exact ⟨0, rfl, rfl, K1, K2, K3⟩
      case round =>
        obtain ⟨q, hqk, rfl, K1, K2, K3⟩ := hrel
        have HQK := Lib.hid hqk; clear hqk HE
        by_cases hq : q < 4
        · have c := K2.u8 (i := 4 * t + q) (by rw [digP_length _ _ (by omega)]; omega)
          have f := K2.frozen (4 * t + q)
          have hset := digP_set st t q ht hq
          rw [HX.out] at hset
          generalize (digP st (4 * t + q)).getD (4 * t + q) 0 = y at *
          have HSET := Lib.hid hset; clear hset
          have HE := Lib.hid (And.intro K1 (And.intro K2 K3)); clear K1 K2 K3
          have b1 : 0 ≤ 24 - 8 * (q : Int) := by omega
          go_wp2_with fail
          go_roundg (gk - 1)
          case measure => have := HQK.out; omega
          case rel =>
            obtain ⟨K1, K2, K3⟩ := HE.out
            refine ⟨q + 1, by have := HQK.out; omega, by go_num, K1.far (by simp) _, ?_, K3.setCell (by simp) _⟩
            have ez : (x : Int) / 2 ^ (24 - 8 * q) % 256 = ((x / 2 ^ (24 - 8 * q) % 256 : Nat) : Int) := by
              rw [Int.natCast_emod, Int.natCast_ediv, Int.natCast_pow]; rfl
            rw [ez]
            exact K2.set8 _ _ HSET.out
        · obtain rfl : q = 4 := by have := HQK.out; omega
          clear hq
          have HE := Lib.hid (And.intro K1 (And.intro K2 K3)); clear K1 K2 K3
          go_wp2_with fail
          go_roundg (ko - 1)
          case measure => have := HTK.out; omega
          case rel =>
            obtain ⟨K1, K2, K3⟩ := HE.out
            exact ⟨t + 1, by have := HTK.out; omega, by go_num, K1, K2, K3⟩
    · obtain rfl : t = 8 := by have := HTK.out; omega
      clear ht
      rw [show 4 * 8 = 32 from rfl, digP_full] at K2
      have hl32 := digest_length st
      have HL := Lib.hid hl32; clear hl32
      have HE := Lib.hid (And.intro K1 (And.intro K2 K3)); clear K1 K2 K3
      go_wp2_with (first
        | (refine wpList_load_row rfl 25 (.tmp 3) rfl (w.heap.size + 1) rfl 25 (u8s (digest st)) (0, 0) _ HE.out.2.1 Tryd.underlying25 rfl (size25 _ HL.out) ?_)
        | (refine wpList_store_row rfl 25 (.tmp 2) (.tmp 44) rfl w.heap.size (u8s (digest st)) rfl rfl 25 (u8s (List.replicate 32 0)) HE.out.1 (size25 _ HL.out) (by rw [u8s_size, u8s_size, HL.out]; rfl) (u8s_one _) ?_))
      obtain ⟨K1, K2, K3⟩ := HE.out
      refine bodyPost_ret (v := .agg (u8s (digest st))) (results_cell_row rfl _ _ w.heap.size 25 _ (0, 0) _ rfl (K1.setRow _) Tryd.underlying25 rfl (size25 _ HL.out)) rfl ⟨?_, below_setRow' K3 (Nat.le_refl _) _⟩
      rw [HC.out.2.2.2.1]

set_option maxRecDepth 100000 in
/-- Sum(b) -/
theorem sum_any (w : World) (hT : Tabs w) (b : List Nat) (A : Option Addr) (cap : Nat) (hcap : b.length ≤ cap) (hB : Bytes b) (hr : RB w w.heap.size A b) (hlen : b.length ≤ 72057594037927936) :
    Calls Tryd.prog 20 #[.slice A b.length cap] w fun e w' => e = .returned (.agg (u8s (sha b))) ∧ Below w.heap.size w w' := by
  have hw2 := hT.two
  have H0 := Lib.hid (And.intro hT (And.intro hB hr)); clear hT hB hr
  go_enter Tryd.func20, Tryd.ntmps20
  go_wp2_with fail
  obtain ⟨W2, hW2⟩ : ∃ W2, W2 = w.alloc (.cells (u8s (List.replicate 32 0)) 25) := ⟨_, rfl⟩
  change Calls _ _ _ (w.alloc (.cells (u8s (List.replicate 32 0)) 25)) _
  rw [← hW2]
  have hs1 : w.heap.size < W2.heap.size := by rw [hW2]; simp
  have F1 : Blk W2 w.heap.size 25 (u8s (List.replicate 32 0)) := by rw [hW2]; exact Blk.new _ _ _
  have F3 : Below w.heap.size w W2 := by rw [hW2]; exact (Below.refl _ _).alloc (Nat.le_refl _) _
  clear hW2
  obtain ⟨hT, hB, hr⟩ := H0.out
  have F5 : Tabs W2 := hT.below F3 hT.two
  refine (new_any W2 F5).mono ?_; rintro e w3 ⟨rfl, N1, N2⟩
  have T3 := F5.below N2 F5.two
  have F6 : Below w.heap.size w w3 := F3.trans (N2.mono (by omega))
  have R3 : RB w3 W2.heap.size A b := hr.move F6 (by omega)
  have F1' := F1.below N2 hs1
  have HA := Lib.hid (And.intro T3 (And.intro R3 (And.intro F1' (And.intro F6 (And.intro N1 hB))))); clear T3 R3 F1' F6 N1 N2 F1 F3 F5 hT hB hr H0
  go_wp2_with fail
  refine (write_any w3 HA.out.1 W2.heap.size (by omega) [] b HA.out.2.2.2.2.1 A cap hcap HA.out.2.2.2.2.2 HA.out.2.1 (by simp; omega)).mono ?_
  rintro e w4 ⟨rfl, I4, G4⟩
  rw [List.nil_append] at I4
  obtain ⟨T3, R3, F1, F6, N1, hB⟩ := HA.out
  have T4 := T3.grown G4 (by omega)
  have F4 := F1.grown G4 (by simp; omega)
  have F7 : Below w.heap.size w w4 := F6.grown G4 F6.size (fun k hk => by injection hk with hk; omega)
  have HB := Lib.hid (And.intro T4 (And.intro F4 (And.intro F7 I4))); clear T3 R3 F1 F6 N1 hB T4 F4 F7 I4 G4 HA
  go_wp2_with fail
  refine (msum_any w4 HB.out.1 W2.heap.size b HB.out.2.2.2 hlen).mono ?_
  rintro e w5 ⟨rfl, B5⟩
  obtain ⟨T4, F4, F7, I4⟩ := HB.out
  have F5 := F4.below B5 F4.lt
  have F8 : Below w.heap.size w w5 := F7.trans (B5.mono F7.size)
  have HC := Lib.hid (And.intro F5 F8); clear T4 F4 F7 I4 B5 F5 F8 HB
  go_wp2_with (refine wpList_store_row rfl 25 (.tmp 2) (.tmp 9) rfl w.heap.size (u8s (sha b)) rfl rfl 25 (u8s (List.replicate 32 0)) HC.out.1 (size25 _ (sha_length b)) (by rw [u8s_size, u8s_size, sha_length]; rfl) (u8s_one _) ?_)
  exact bodyPost_ret (v := .agg (u8s (sha b))) (results_cell_row rfl _ _ w.heap.size 25 _ (0, 0) _ rfl (HC.out.1.setRow _) Tryd.underlying25 rfl (size25 _ (sha_length b))) rfl ⟨rfl, below_setRow' HC.out.2 (Nat.le_refl _) _⟩
end Go.Proofs.YtediocpdpghbfaaDoor
