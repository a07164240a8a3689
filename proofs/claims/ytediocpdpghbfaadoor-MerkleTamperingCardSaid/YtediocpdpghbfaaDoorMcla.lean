/- Merkle: a claim (the law's struct) in memory. -/
import Derived.Test.YtediocpdpghbfaaDoorMrpt
import Derived.Test.YtediocpdpghbfaaDoorRegv
import Derived.Laws.BitsAllLaws
set_option linter.unusedSimpArgs false
set_option linter.unusedVariables false
namespace Go.Proofs.YtediocpdpghbfaaDoor
open Go Go.RowKit

/-- the cells of a claim: root, size, index, leaf, proof -/
def clC (root : List Nat) (n i : Int) (lv pv : Value) : Array Value := (bvals root ++ [.int .i64 n, .int .i64 i, lv, pv]).toArray
theorem clC_size (root : List Nat) (hr : root.length = 32) (n i : Int) (lv pv : Value) : (clC root n i lv pv).size = 36 := by simp [clC, bvals, hr]
theorem clC_32 (root : List Nat) (hr : root.length = 32) (n i : Int) (lv pv : Value) : (clC root n i lv pv)[32]? = some (.int .i64 n) := by simp [clC, bvals, hr]
theorem clC_33 (root : List Nat) (hr : root.length = 32) (n i : Int) (lv pv : Value) : (clC root n i lv pv)[33]? = some (.int .i64 i) := by simp [clC, bvals, hr]
theorem clC_34 (root : List Nat) (hr : root.length = 32) (n i : Int) (lv pv : Value) : (clC root n i lv pv)[34]? = some lv := by simp [clC, bvals, hr]
theorem clC_35 (root : List Nat) (hr : root.length = 32) (n i : Int) (lv pv : Value) : (clC root n i lv pv)[35]? = some pv := by simp [clC, bvals, hr]
theorem clC_at (root : List Nat) (hr : root.length = 32) (n i : Int) (lv pv : Value) (j : Nat) (hj : j < 32) : (clC root n i lv pv)[j]? = some (.int .u8 (root.getD j 0 : Nat)) := by
  simp [clC, bvals, List.getElem?_append, hr, hj, List.getD_eq_getElem?_getD]
theorem clC_s32 (root : List Nat) (hr : root.length = 32) (n i m : Int) (lv pv : Value) : (clC root n i lv pv).setIfInBounds 32 (.int .i64 m) = clC root m i lv pv := by simp [clC, bvals, hr, List.set_append]
theorem clC_s33 (root : List Nat) (hr : root.length = 32) (n i m : Int) (lv pv : Value) : (clC root n i lv pv).setIfInBounds 33 (.int .i64 m) = clC root n m lv pv := by simp [clC, bvals, hr, List.set_append]
theorem clC_s34 (root : List Nat) (hr : root.length = 32) (n i : Int) (lv pv v : Value) : (clC root n i lv pv).setIfInBounds 34 v = clC root n i v pv := by simp [clC, bvals, hr, List.set_append]
theorem clC_s35 (root : List Nat) (hr : root.length = 32) (n i : Int) (lv pv v : Value) : (clC root n i lv pv).setIfInBounds 35 v = clC root n i lv v := by simp [clC, bvals, hr, List.set_append]
theorem clC_sr (root : List Nat) (hr : root.length = 32) (n i : Int) (lv pv : Value) (j x : Nat) (hj : j < 32) : (clC root n i lv pv).setIfInBounds j (.int .u8 (x : Int)) = clC (root.set j x) n i lv pv := by
  simp [clC, bvals, hr, List.set_append, hj, List.map_set]
theorem clC_one (root : List Nat) (n i : Int) (A P : Option Addr) (la ca k pc : Nat) : (clC root n i (.slice A la ca) (.slice P k pc)).all (·.oneCell') = true := by
  simp [clC, bvals, Value.oneCell']
theorem size87 (cs : Array Value) (h : cs.size = 36) : (Tryd.prog.info? 87).map (·.size) = some cs.size := by rw [h]; kernel_rfl
def z87 : Array Value := clC (zer 32) 0 0 (.slice none 0 0) (.slice none 0 0)
theorem info87 : (Tryd.prog.info? 87).map (fun i => (i.zero, i.size)) = some (some (.agg z87), 36) := by kernel_rfl
def alc87 : Sem Value := Instr.alloc 87 true (.tuple #[])
theorem alc87_rule : Instr.alloc 87 true (.tuple #[]) = alc87 := rfl
theorem alc87_run (w : World) : alc87.run Tryd.prog w = .ok (.pointer (some ⟨w.heap.size, 0, none⟩)) (w.alloc (.cells z87 87)) := by
  have h := info87
  unfold alc87 Instr.alloc
  cases hq : Tryd.prog.info? 87 with
  | none => rw [hq] at h; cases h
  | some i =>
    rw [hq] at h
    simp only [Option.map_some, Option.some.injEq, Prod.mk.injEq] at h
    simp [newVar, newRow, zeroValue, typeInfo, hq, h.1, Value.cells]
theorem ld87 (x : Value) : Instr.loadAt 87 x = loadAgg 87 x := rfl
theorem st87 (x v : Value) : Instr.storeAt 87 x v = storeAgg 87 x v := rfl
theorem load87_run {w : World} {g t : Nat} {root : List Nat} {n i : Int} {lv pv : Value} (h : Blk w g t (clC root n i lv pv)) (hr : root.length = 32) :
    (loadAgg 87 (.pointer (some ⟨g, 0, none⟩))).run Tryd.prog w = .ok (.agg (clC root n i lv pv)) w := by
  have := loadAgg_run (P := Tryd.prog) (w := w) (ty := 87) (g := g) (off := 0) (clC root n i lv pv).toList Tryd.underlying87 rfl (by rw [Array.length_toList]; exact size87 _ (clC_size _ hr _ _ _ _)) (fun j v hv => by
    rw [Nat.zero_add, h.cell]; simpa using hv)
  simpa using this
theorem load87_root {w : World} {g t : Nat} {root : List Nat} {n i : Int} {lv pv : Value} (h : Blk w g t (clC root n i lv pv)) (hr : root.length = 32) :
    (loadAgg 25 (.pointer (some ⟨g, 0, none⟩))).run Tryd.prog w = .ok (.agg (u8s root)) w := by
  have := loadAgg_run (P := Tryd.prog) (w := w) (ty := 25) (g := g) (off := 0) (u8s root).toList Tryd.underlying25 rfl (by rw [Array.length_toList]; exact size25 root hr) (fun j v hv => by
    rw [Nat.zero_add, h.cell]
    rw [u8s_bvals] at hv
    have hj : j < 32 := by have := (List.getElem?_eq_some_iff.1 hv).1; rw [bvals_length, hr] at this; exact this
    simp [clC, List.getElem?_append, bvals_length, hr, hj]
    exact (List.getElem?_eq_some_iff.1 hv).2)
  simpa using this
theorem store87_run {w : World} {g : Nat} {old cs : Array Value} (h : Blk w g 87 old) (hl : old.size = 36) (hl' : cs.size = 36) (h1 : cs.all (·.oneCell') = true) :
    (storeAgg 87 (.pointer (some ⟨g, 0, none⟩)) (.agg cs)).run Tryd.prog w = .ok () (w.setRow g cs) := by
  have := storeAgg_run (P := Tryd.prog) (ty := 87) (off := 0) (cur := old.toList) cs (by rw [Array.toArray_toList]; exact h) (size87 cs hl') (by rw [hl', Array.length_toList, hl]; omega) h1
  rw [this, List.drop_eq_nil_of_le (by rw [Array.length_toList, hl, hl']; omega), List.take_zero, List.nil_append, List.append_nil, Array.toArray_toList]
def bld87 (ps : Array (Nat × Value)) : Sem Value := Instr.build 87 ps
theorem bld87_rule (ps : Array (Nat × Value)) : Instr.build 87 ps = bld87 ps := rfl
theorem list32 (l : List Nat) (h : l.length = 32) : ∃ a0 a1 a2 a3 a4 a5 a6 a7 b0 b1 b2 b3 b4 b5 b6 b7 c0 c1 c2 c3 c4 c5 c6 c7 d0 d1 d2 d3 d4 d5 d6 d7, l = [a0, a1, a2, a3, a4, a5, a6, a7, b0, b1, b2, b3, b4, b5, b6, b7, c0, c1, c2, c3, c4, c5, c6, c7, d0, d1, d2, d3, d4, d5, d6, d7] := by
  refine ⟨l.getD 0 0, l.getD 1 0, l.getD 2 0, l.getD 3 0, l.getD 4 0, l.getD 5 0, l.getD 6 0, l.getD 7 0, l.getD 8 0, l.getD 9 0, l.getD 10 0, l.getD 11 0, l.getD 12 0, l.getD 13 0, l.getD 14 0, l.getD 15 0, l.getD 16 0, l.getD 17 0, l.getD 18 0, l.getD 19 0, l.getD 20 0, l.getD 21 0, l.getD 22 0, l.getD 23 0, l.getD 24 0, l.getD 25 0, l.getD 26 0, l.getD 27 0, l.getD 28 0, l.getD 29 0, l.getD 30 0, l.getD 31 0, ?_⟩
  refine List.ext_getElem (by simp [h]) fun k h1 h2 => ?_
  rw [h] at h1
  have : ∀ k, k < 32 → k = 0 ∨ k = 1 ∨ k = 2 ∨ k = 3 ∨ k = 4 ∨ k = 5 ∨ k = 6 ∨ k = 7 ∨ k = 8 ∨ k = 9 ∨ k = 10 ∨ k = 11 ∨ k = 12 ∨ k = 13 ∨ k = 14 ∨ k = 15 ∨ k = 16 ∨ k = 17 ∨ k = 18 ∨ k = 19 ∨ k = 20 ∨ k = 21 ∨ k = 22 ∨ k = 23 ∨ k = 24 ∨ k = 25 ∨ k = 26 ∨ k = 27 ∨ k = 28 ∨ k = 29 ∨ k = 30 ∨ k = 31 := by omega
  rcases this k h1 with rfl | rfl | rfl | rfl | rfl | rfl | rfl | rfl | rfl | rfl | rfl | rfl | rfl | rfl | rfl | rfl | rfl | rfl | rfl | rfl | rfl | rfl | rfl | rfl | rfl | rfl | rfl | rfl | rfl | rfl | rfl | rfl <;> simp [List.getD_eq_getElem?_getD, List.getElem?_eq_getElem, h]
theorem bld87_run (w : World) (root : List Nat) (hr : root.length = 32) (n i : Int) (A P : Option Addr) (la ca k pc : Nat) :
    (bld87 #[(0, .agg (u8s root)), (1, .int .i64 n), (2, .int .i64 i), (3, .slice A la ca), (4, .slice P k pc)]).run Tryd.prog w = .ok (.agg (clC root n i (.slice A la ca) (.slice P k pc))) w := by
  obtain ⟨a0, a1, a2, a3, a4, a5, a6, a7, b0, b1, b2, b3, b4, b5, b6, b7, c0, c1, c2, c3, c4, c5, c6, c7, d0, d1, d2, d3, d4, d5, d6, d7, rfl⟩ := list32 root hr
  exact run_build (P := Tryd.prog) w 87 _ _ (by kernel_rfl)
/-! ### what lies in other blocks, told apart by the type -/
section
variable {w w' : World} {base E sz n cap : Nat} {A : Option Addr} {xs : List Value}
theorem OW.rowTy (h : OW w base E sz A n cap xs) : ∀ g, (Value.slice A n cap).ownBlock = some g → ∃ cur fr, w.heap[g]? = some (.cells cur E fr) := by
  intro g hg
  rcases h.2 with ⟨hv, _⟩ | ⟨g', cap', cur, hv, hb, hh, _⟩
  · injection hv with e1
    subst e1
    cases hg
  · injection hv with e1
    subst e1
    obtain rfl : g' = g := by simpa [Value.ownBlock] using hg
    exact ⟨cur, _, hh⟩
theorem OW.grownT (h : OW w base E sz A n cap xs) {row : Option Nat} {F : TypeId} (hg : w.grownBy w' row) (hrow : ∀ g, row = some g → ∃ cur fr, w.heap[g]? = some (.cells cur F fr)) (hne : E ≠ F) : OW w' base E sz A n cap xs := by
  refine ⟨h.1, ?_⟩
  rcases h.2 with h2 | ⟨k, cap', cur, hv, hk, hh, h3, h4, h5, h6⟩
  · exact .inl h2
  · refine .inr ⟨k, cap', cur, hv, hk, (hg.block k (Array.getElem?_eq_some_iff.1 hh).1 ?_).trans hh, h3, h4, h5, h6⟩
    intro e
    obtain ⟨c2, f2, h7⟩ := hrow k e.symm
    rw [hh] at h7
    injection h7 with h7
    injection h7 with _ h7
    exact hne h7
theorem OW.rowT (h : OW w base E sz A n cap xs) {e t : Nat} {cs0 : Array Value} (hE : Blk w e t cs0) (hne : E ≠ t) (cs : Array Value) : OW (w.setRow e cs) base E sz A n cap xs := by
  refine ⟨h.1, ?_⟩
  rcases h.2 with h2 | ⟨k, cap', cur, hv, hk, hh, h3, h4, h5, h6⟩
  · exact .inl h2
  · refine .inr ⟨k, cap', cur, hv, hk, (setRow_other _ _ _ _ ?_).trans hh, h3, h4, h5, h6⟩
    rintro rfl
    unfold Blk at hE
    rw [hh] at hE
    injection hE with hE
    injection hE with _ hE
    exact hne hE
theorem OW.cellT (h : OW w base E sz A n cap xs) {e t : Nat} {cur0 : Array Value} {fr : Nat × Nat} (hE : w.heap[e]? = some (.cells cur0 t fr)) (hne : E ≠ t) (o : Nat) (v : Value) : OW (w.setCell ⟨e, o, none⟩ v) base E sz A n cap xs := by
  refine ⟨h.1, ?_⟩
  rcases h.2 with h2 | ⟨k, cap', cur, hv, hk, hh, h3, h4, h5, h6⟩
  · exact .inl h2
  · refine .inr ⟨k, cap', cur, hv, hk, (Below.heap_setCell w ⟨e, o, none⟩ v k ?_).trans hh, h3, h4, h5, h6⟩
    rintro rfl
    rw [hh] at hE
    injection hE with hE
    injection hE with _ hE
    exact hne hE
theorem OW.setAny {g : Nat} (h : OW w base E sz (some ⟨g, 0, none⟩) n cap xs) (k : Nat) (v : Value) : OW (w.setCell ⟨g, k, none⟩ v) base E sz (some ⟨g, 0, none⟩) n cap (xs.set k v) := by
  refine ⟨by rw [List.length_set]; exact h.1, ?_⟩
  rcases h.2 with ⟨hv, _⟩ | ⟨g', cap', cur, hv, hb, hg, h3, h4, h5, h6⟩
  · cases hv
  · injection hv with e1 e2 e3
    injection e1 with e1
    injection e1 with e1
    subst e1
    subst e3
    refine .inr ⟨g, cap, cur.setIfInBounds k v, rfl, hb, (show Blk w g E cur from hg).set_ k v, h3, h4, by simpa using h5, ?_⟩
    rw [Array.toList_setIfInBounds, ← h6, List.take_set]
end
theorem OW.ge {w : World} {base E sz n cap : Nat} {A : Option Addr} {xs : List Value} (h : OW w base E sz A n cap xs) : ∀ ad, A = some ad → base ≤ ad.block := by
  intro ad e
  subst e
  rcases h.2 with ⟨hv, _⟩ | ⟨g', cap', cur, hv, hb, _⟩
  · injection hv with e1
    cases e1
  · injection hv with e1
    injection e1 with e1
    subst e1
    exact hb
theorem rw_row {w : World} {A : Option Addr} {c g : Nat} {b : List Nat} (h : RW w A c b) (hne : ∀ ad, A = some ad → ad.block ≠ g) (cs : Array Value) : RW (w.setRow g cs) A c b :=
  ⟨h.1, fun ad hA hn => ⟨(h.2 ad hA hn).1, by simpa using (h.2 ad hA hn).2.1, fun j hj => (World.cell?_of_block (a := ⟨ad.block, ad.off + j, none⟩) (setRow_other _ _ _ _ (hne ad hA))).trans ((h.2 ad hA hn).2.2 j hj)⟩⟩
theorem lv_row {w : World} {A : Option Addr} {g : Nat} {xs : List Value} (h : LV w A xs) (hne : ∀ ad, A = some ad → ad.block ≠ g) (cs : Array Value) : LV (w.setRow g cs) A xs :=
  ⟨h.1, fun ad hA hn => ⟨(h.2 ad hA hn).1, by simpa using (h.2 ad hA hn).2.1, fun j v hj => (World.cell?_of_block (a := ⟨ad.block, ad.off + j, none⟩) (setRow_other _ _ _ _ (hne ad hA))).trans ((h.2 ad hA hn).2.2 j v hj)⟩⟩
theorem rw_blk {w : World} {g t c : Nat} {l : List Nat} (h : Blk w g t (u8s l)) : RW w (some ⟨g, 0, none⟩) c l :=
  ⟨(fun e => by cases e), fun ad hA hn => by
    injection hA with hA
    subst hA
    exact ⟨rfl, h.lt, fun j hj => by rw [Nat.zero_add, h.u8 hj]⟩⟩
theorem Blk.grownT {w w' : World} {g t F : Nat} {cs : Array Value} (h : Blk w g t cs) {row : Option Nat} (hg : w.grownBy w' row) (hrow : ∀ g, row = some g → ∃ cur fr, w.heap[g]? = some (.cells cur F fr)) (hne : t ≠ F) : Blk w' g t cs := by
  refine h.grown hg ?_
  intro e
  obtain ⟨c2, f2, h7⟩ := hrow g e.symm
  unfold Blk at h
  rw [h] at h7
  injection h7 with h7
  injection h7 with _ h7
  exact hne h7
theorem Blk.neT {w : World} {g t e F : Nat} {cs cur : Array Value} {fr : Nat × Nat} (h : Blk w g t cs) (hE : w.heap[e]? = some (.cells cur F fr)) (hne : t ≠ F) : g ≠ e := by
  rintro rfl
  unfold Blk at h
  rw [h] at hE
  injection hE with hE
  injection hE with _ hE
  exact hne hE
theorem lv_rw {w : World} {A : Option Addr} {c : Nat} {b : List Nat} (h : RW w A c b) : LV w A (bvals b) := by
  refine ⟨fun e => by rw [(h.1 e).2]; rfl, fun ad hA hn => ?_⟩
  have hb : b ≠ [] := fun e => hn (by rw [e]; rfl)
  obtain ⟨h1, h2, h3⟩ := h.2 ad hA hb
  refine ⟨h1, h2, fun j v hj => ?_⟩
  have hl : j < b.length := by have := (List.getElem?_eq_some_iff.1 hj).1; rwa [bvals_length] at this
  rw [h3 j hl]
  unfold bvals at hj
  rw [List.getElem?_map, List.getElem?_eq_getElem hl] at hj
  rw [List.getD_eq_getElem?_getD, List.getElem?_eq_getElem hl]
  simpa using hj
theorem bvals_set (l : List Nat) (j x : Nat) : (bvals l).set j (.int .u8 (x : Int)) = bvals (l.set j x) := by simp [bvals, List.map_set]
theorem bvals_at (l : List Nat) (j : Nat) (h : j < l.length) : (bvals l)[j]? = some (.int .u8 (l.getD j 0 : Nat)) := by
  simp [bvals, List.getElem?_eq_getElem h, List.getD_eq_getElem?_getD]
/-- one byte of one hash -/
theorem hcell_set1 : ∀ (hs : List (List Nat)) (hd : Digs hs) (k j x : Nat), k < hs.length → j < 32 → (hcell hs).set (k * 32 + j) (.int .u8 (x : Int)) = hcell (hs.set k ((hs.getD k []).set j x))
  | [], _, k, j, x, hk, _ => by simp at hk
  | a :: hs, hd, 0, j, x, _, hj => by
    have ha := (hd a (List.mem_cons_self ..)).1
    unfold hcell
    rw [List.flatMap_cons, Nat.zero_mul, Nat.zero_add, List.set_append_left _ _ (by rw [bvals_length, ha]; exact hj), bvals_set]
    simp
  | a :: hs, hd, k + 1, j, x, hk, hj => by
    have ha := (hd a (List.mem_cons_self ..)).1
    have ih := hcell_set1 hs (fun x hx => hd x (List.mem_cons_of_mem _ hx)) k j x (by simpa using hk) hj
    unfold hcell at ih ⊢
    rw [List.flatMap_cons, List.set_append_right _ _ (by rw [bvals_length, ha]; omega), bvals_length, ha, show (k + 1) * 32 + j - 32 = k * 32 + j by omega, ih]
    simp
theorem digs_set {hs : List (List Nat)} (hd : Digs hs) (k : Nat) (d : List Nat) (h : d.length = 32) (hB : Bytes d) : Digs (hs.set k d) := fun x hx => by
  rcases List.mem_or_eq_of_mem_set hx with h1 | rfl
  · exact hd x h1
  · exact ⟨h, hB⟩
theorem bytes_set {l : List Nat} (h : Bytes l) (j x : Nat) (hx : x < 256) : Bytes (l.set j x) := Bytes.of_mem (by
  intro y hy
  rcases List.mem_or_eq_of_mem_set hy with h1 | rfl
  · exact h.mem y h1
  · exact hx)
theorem xor_byte (a b : Nat) (ha : a < 256) (hb : b < 256) : ∃ x : Nat, x < 256 ∧ bits .xor .u8 (a : Int) (b : Int) = x := ⟨a ^^^ b, Nat.xor_lt_two_pow (n := 8) ha hb, u8_xor_nat a b ha hb⟩
/-! ### the state of changed -/
structure ChV (w V : World) (kd aa bb : Nat) (cs : Array Value) : Prop where
  c : Blk V (w.heap.size + 1) 84 #[.int .u8 (kd : Int), .int .u8 (aa : Int), .int .u8 (bb : Int)]
  x : Blk V w.heap.size 87 cs
  r : Blk V (w.heap.size + 1 + 1) 87 z87
  b : Below w.heap.size w V
theorem chv_start (w : World) (kd aa bb : Nat) (cs : Array Value) : ChV w (((w.alloc (.cells cs 87)).alloc (.cells #[.int .u8 (kd : Int), .int .u8 (aa : Int), .int .u8 (bb : Int)] 84)).alloc (.cells z87 87)) kd aa bb cs :=
  ⟨(Blk.new1 _ _ _ _).alloc _, ((Blk.new _ _ _).alloc _).alloc _, Blk.new2 _ _ _ _ _, (((Below.refl _ _).alloc (Nat.le_refl _) _).alloc (by simp) _).alloc (by simp only [size1]; omega) _⟩
theorem ChV.le {w V : World} {kd aa bb : Nat} {cs : Array Value} (h : ChV w V kd aa bb cs) : w.heap.size + 1 + 1 + 1 ≤ V.heap.size := h.r.lt
theorem ChV.step {w V V' : World} {kd aa bb : Nat} {cs : Array Value} (h : ChV w V kd aa bb cs) (b : Below V.heap.size V V') : ChV w V' kd aa bb cs :=
  ⟨h.c.below b h.c.lt, h.x.below b h.x.lt, h.r.below b h.r.lt, h.b.trans (b.mono (Nat.le_of_lt h.x.lt))⟩
structure ChSt (w W : World) (base g6 kd aa bb : Nat) (root : List Nat) (n i : Int) (A : Option Addr) (la ca : Nat) (leaf : List Nat) (P : Option Addr) (k kk pc : Nat) (ps : List (List Nat)) : Prop where
  c : Blk W (w.heap.size + 1) 84 #[.int .u8 (kd : Int), .int .u8 (aa : Int), .int .u8 (bb : Int)]
  r : Blk W (w.heap.size + 1 + 1) 87 z87
  x : Blk W g6 87 (clC root n i (.slice A la ca) (.slice P k pc))
  l : OW W base 5 1 A la ca (bvals leaf)
  p : OW W base 25 32 P kk pc (hcell ps)
  b : Below w.heap.size w W
  hg : w.heap.size + 1 + 1 < g6
  hb : w.heap.size + 1 + 1 < base
def ClRes (w w' : World) (e : Ending) (la0 k0 : Nat) : Prop := ∃ (root : List Nat) (n i : Int) (leaf : List Nat) (A : Option Addr) (la ca : Nat) (ps : List (List Nat)) (P : Option Addr) (k pc : Nat),
  e = .returned (.agg (clC root n i (.slice A la ca) (.slice P k pc))) ∧ root.length = 32 ∧ Bytes root ∧ leaf.length = la ∧ la ≤ ca ∧ la ≤ la0 + 1 ∧ Bytes leaf ∧ RW w' A ca leaf ∧ ps.length = k ∧ k ≤ pc ∧ pc ≤ 9223372036854775807 ∧ k ≤ k0 + 1 ∧ Digs ps ∧ LV w' P (hcell ps) ∧ (∀ ad, A = some ad → w.heap.size ≤ ad.block) ∧ (∀ ad, P = some ad → w.heap.size ≤ ad.block) ∧ Below w.heap.size w w'
/-- what the call comes to at its end -/
theorem cl_ret {fn : Func} {a : Act} {w W : World} {p : Tmp} {base g6 kd aa bb la0 k0 : Nat} {root : List Nat} {n i : Int} {A : Option Addr} {la ca : Nat} {leaf : List Nat} {P : Option Addr} {k kk pc : Nat} {ps : List (List Nat)}
    (M : ChSt w W base g6 kd aa bb root n i A la ca leaf P k kk pc ps) (h : fn.results = #[.cell p 87]) (hp : a.tmps.getD p undef = .pointer (some ⟨w.heap.size + 1 + 1, 0, none⟩)) (hdf : a.defers = [])
    (hr : root.length = 32) (hrB : Bytes root) (hll : leaf.length = la) (hla : la ≤ la0 + 1) (hlB : Bytes leaf) (hkk : ps.length = kk) (hk : k ≤ kk) (hk0 : k ≤ k0 + 1) (hd : Digs ps) :
    bodyPost Tryd.prog fn (fun e w' => ClRes w w' e la0 k0) .ret a (W.setRow (w.heap.size + 1 + 1) (clC root n i (.slice A la ca) (.slice P k pc))) := by
  have hL := M.l.rowT M.r (by decide) (clC root n i (.slice A la ca) (.slice P k pc))
  have hP := M.p.rowT M.r (by decide) (clC root n i (.slice A la ca) (.slice P k pc))
  have hc1 := M.l.cap'
  have hc2 := M.p.cap'
  refine bodyPost_ret (v := .agg (clC root n i (.slice A la ca) (.slice P k pc))) (results_cell_row h _ _ (w.heap.size + 1 + 1) 87 _ (0, 0) _ hp (M.r.setRow _) Tryd.underlying87 rfl (size87 _ (clC_size _ hr _ _ _ _))) hdf
    ⟨root, n, i, leaf, A, la, ca, ps.take k, P, k, pc, rfl, hr, hrB, hll, hc1.1, hla, hlB, OB.rw ⟨hll, hL⟩, by rw [List.length_take]; omega, by omega, by unfold maxLen at hc2; omega, hk0, digs_take hd k, lv_htake hP.lv hd k, fun ad e => Nat.le_trans (by have := M.hb; omega) (OW.ge M.l ad e), fun ad e => Nat.le_trans (by have := M.hb; omega) (OW.ge M.p ad e), below_setRow' M.b (by omega) _⟩
end Go.Proofs.YtediocpdpghbfaaDoor
