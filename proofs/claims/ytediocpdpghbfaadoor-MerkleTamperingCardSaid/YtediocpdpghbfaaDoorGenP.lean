/- Slices of the call's own, over any element type and any program: what they hold, and append to them. Literals of structs and of slices with one element, over any program. Merkle: few (at most 20 leaves of at most 40 bytes). Merkle: proofs of the reference's type (to), their equality (Same). slices.Reverse over bools: a slice of the call's own is turned round. Merkle: the sides of a path. Merkle: the steps of a path. -/
import Derived.Test.YtediocpdpghbfaaDoorMerP
import Derived.Laws.Tables
import Derived.Test.YtediocpdpghbfaaDoorRegP
import Derived.Test.YtediocpdpghbfaaDoorShaR
import Derived.Outline
import Derived.RegionTactic
import Derived.ChangeAlike
import Derived.Test.YtediocpdpghbfaaDoorMerQ
set_option linter.unusedSimpArgs false
set_option linter.unusedVariables false
namespace Go.Proofs.YtediocpdpghbfaaDoor
open Go Go.RowKit

/-- from address A on lie the cells xs -/
def LV (w : World) (A : Option Addr) (xs : List Value) : Prop :=
  (A = none → xs = []) ∧ ∀ ad, A = some ad → xs ≠ [] → ad.spot = none ∧ ad.block < w.heap.size ∧ ∀ j v, xs[j]? = some v → w.cell? ⟨ad.block, ad.off + j, none⟩ = some v
theorem LV.below {w w' : World} {A : Option Addr} {xs : List Value} (h : LV w A xs) (hb : Below w.heap.size w w') : LV w' A xs :=
  ⟨h.1, fun ad hA hn => ⟨(h.2 ad hA hn).1, Nat.lt_of_lt_of_le (h.2 ad hA hn).2.1 hb.size, fun j v hj => (hb.cell (p := ⟨ad.block, ad.off + j, none⟩) (h.2 ad hA hn).2.1).trans ((h.2 ad hA hn).2.2 j v hj)⟩⟩
theorem lv_blk {w : World} {g t : Nat} {cs : Array Value} (h : Blk w g t cs) : LV w (some ⟨g, 0, none⟩) cs.toList :=
  ⟨(fun e => by cases e), fun ad hA _ => by
    injection hA with hA
    subst hA
    exact ⟨rfl, h.lt, fun j v hj => by rw [Nat.zero_add, h.cell]; simpa using hj⟩⟩
theorem lv_nil (w : World) (A : Option Addr) : LV w A [] := ⟨fun _ => rfl, fun _ _ h => absurd rfl h⟩
abbrev OW (w : World) (base : Nat) (E : TypeId) (sz : Nat) (A : Option Addr) (n cap : Nat) (xs : List Value) : Prop := w.ownsRow base E sz (.slice A n cap) n xs
section
variable {w w' : World} {base E sz n cap : Nat} {A : Option Addr} {xs : List Value}
theorem ow_nil (w : World) (base E sz : Nat) : OW w base E sz none 0 0 [] := ⟨by simp, .inl ⟨rfl, rfl⟩⟩
theorem OW.below' (h : OW w base E sz A n cap xs) (hb : Below w.heap.size w w') : OW w' base E sz A n cap xs := by
  refine ⟨h.1, ?_⟩
  rcases h.2 with h2 | ⟨k, cap', cur, hv, hk, hh, h3, h4, h5, h6⟩
  · exact .inl h2
  · exact .inr ⟨k, cap', cur, hv, hk, (hb.block k (Array.getElem?_eq_some_iff.1 hh).1).trans hh, h3, h4, h5, h6⟩
theorem OW.lv (h : OW w base E sz A n cap xs) : LV w A xs := by
  refine ⟨fun hA => ?_, fun ad hA hne => ?_⟩
  · subst hA
    rcases h.2 with ⟨hv, hx⟩ | ⟨g, cap', cur, hv, _⟩
    · exact List.eq_nil_of_length_eq_zero (by rw [h.1, hx]; simp)
    · cases hv
  · subst hA
    rcases h.2 with ⟨hv, hx⟩ | ⟨g, cap', cur, hv, hb, hg, _⟩
    · cases hv
    · injection hv with e1 e2 e3
      injection e1 with e1
      subst e1
      refine ⟨rfl, (Array.getElem?_eq_some_iff.1 hg).1, fun j v hj => ?_⟩
      have := World.ownsRow.cells h (g := g) rfl j v hj
      rwa [addr_add] at this
theorem OW.grown' (h : OW w base E sz A n cap xs) {g : Nat} (hg : w.grownBy w' (some g)) (hb : g < base) : OW w' base E sz A n cap xs := by
  refine ⟨h.1, ?_⟩
  rcases h.2 with h2 | ⟨k, cap', cur, hv, hk, hh, h3, h4, h5, h6⟩
  · exact .inl h2
  · exact .inr ⟨k, cap', cur, hv, hk, (hg.block k (Array.getElem?_eq_some_iff.1 hh).1 (by intro e; injection e; omega)).trans hh, h3, h4, h5, h6⟩
theorem OW.cap' (h : OW w base E sz A n cap xs) : n ≤ cap ∧ cap ≤ maxLen := by
  rcases h.2 with ⟨hv, hn⟩ | ⟨g, cap', cur, hv, _, _, hle, hm, _⟩
  · injection hv with _ e2 e3; unfold maxLen; omega
  · injection hv with _ _ e3; omega
theorem OW.baseLe (h : OW w base E sz A n cap xs) {base' : Nat} (hb : base' ≤ base) : OW w base' E sz A n cap xs := by
  refine ⟨h.1, ?_⟩
  rcases h.2 with h2 | ⟨k, cap', cur, hv, hk, hh, h3, h4, h5, h6⟩
  · exact .inl h2
  · exact .inr ⟨k, cap', cur, hv, by omega, hh, h3, h4, h5, h6⟩
theorem OW.setRow' (h : OW w base E sz A n cap xs) {g : Nat} (hg : g < base) (cs : Array Value) : OW (w.setRow g cs) base E sz A n cap xs := by
  refine ⟨h.1, ?_⟩
  rcases h.2 with h2 | ⟨k, cap', cur, hv, hk, hh, h3, h4, h5, h6⟩
  · exact .inl h2
  · exact .inr ⟨k, cap', cur, hv, hk, (setRow_other _ _ _ _ (by omega)).trans hh, h3, h4, h5, h6⟩
theorem OW.setCell' (h : OW w base E sz A n cap xs) {p : Addr} (hp : p.block < base) (u : Value) : OW (w.setCell p u) base E sz A n cap xs := by
  refine ⟨h.1, ?_⟩
  rcases h.2 with h2 | ⟨k, cap', cur, hv, hk, hh, h3, h4, h5, h6⟩
  · exact .inl h2
  · exact .inr ⟨k, cap', cur, hv, hk, (Below.heap_setCell w p u k (by omega)).trans hh, h3, h4, h5, h6⟩
/-- a row that was just made, whole -/
theorem ow_new (w : World) {base : Nat} (E : TypeId) (sz : Nat) (cs : Array Value) (n : Nat) (hb : base ≤ w.heap.size) (hn : n ≤ maxLen) (hs : cs.size = n * sz) : OW (w.alloc (.cells cs E)) base E sz (some ⟨w.heap.size, 0, none⟩) n n cs.toList :=
  ⟨by rw [Array.length_toList, hs], .inr ⟨w.heap.size, n, cs, rfl, hb, Blk.new w E cs, Nat.le_refl _, hn, hs, by rw [List.take_of_length_le]; rw [Array.length_toList, hs]; omega⟩⟩
end
theorem one_single {v : Value} (h : v.oneCell' = true) : ∀ u ∈ [v], u.oneCell' = true := fun u hu => by
  obtain rfl : u = v := by simpa using hu
  exact h
/-- append(out, more...) -/
theorem wpList_appW {P : Program} {w : World} {ops : Array Oper} {rest : List Oper} {o : Oper} {a : Act} {Q : Exit → Act → World → Prop} (T E : TypeId) (z : Value) (sz bytes : Nat) (hT : P.underlying T = some (.slice E))
    (hE : (P.info? E).map (fun i => (i.zero, i.size, i.bytes)) = some (some z, sz, bytes)) (hzs : z.cells.size = sz) (hsz : 0 < sz) (hgd : o.guard = none) (s x : Operand)
    (ho : o.op = .call { callee := .builtin .append, args := #[s, x], argTypes := #[T, T] }) (base : Nat) (A : Option Addr) (n cap : Nat) (xs : List Value) (hs : a.eval s = .slice A n cap) (hown : OW w base E sz A n cap xs)
    (A2 : Option Addr) (m c2 : Nat) (ys : List Value) (hx : a.eval x = .slice A2 m c2) (hl : ys.length = m * sz) (hn2 : A2 = none → c2 = 0) (hy : LV w A2 ys) (h1 : ∀ u ∈ ys, u.oneCell' = true) (hlen : (n + m) * bytes ≤ 140737488355328) (hb1 : 1 ≤ bytes) (hbase : base ≤ w.heap.size)
    (h : ∀ A' cap' w', OW w' base E sz A' (n + m) cap' (xs ++ ys) → Below base w w' → wpList P ops Q rest (a.put o.dst (.slice A' (n + m) cap')) w') : wpList P ops Q (o :: rest) a w := by
  obtain ⟨i0, hi0, hz0, hz1, hz2⟩ := info_parts hE
  cases A2 with
  | none =>
    have hys := hy.1 rfl
    subst hys
    obtain rfl := hn2 rfl
    obtain rfl : m = 0 := by
      have : m * sz = 0 := by simpa using hl.symm
      rcases Nat.mul_eq_zero.1 this with h | h <;> omega
    refine wpList_append_own_none hgd s x T ho base E i0 sz hT hi0 (.slice A n cap) n xs hs hown hx ?_
    have := h A cap w (by simpa using hown) (Below.refl _ _)
    simpa using this
  | some ad =>
    have hnm : n + m ≤ (n + m) * bytes := Nat.le_mul_of_pos_right _ (by omega)
    refine wpList_append_own _ hgd s x T ho base E i0 z sz bytes hT hi0 hz0 hz1 hz2 hzs hsz (.slice A n cap) n xs hs hown ad m c2 ys hx hl ?_ h1 (by unfold maxLen; omega) hlen hbase ?_
    · intro j u hj
      obtain ⟨h1, h2, h3⟩ := hy.2 ad rfl (fun e => by rw [e] at hj; simp at hj)
      obtain ⟨ab, ao, asp⟩ := ad
      simp only at h1 h2 h3
      subst h1
      rw [addr_add]
      exact h3 j u hj
    · intro v' w' hown' hg hnil
      obtain ⟨A', cap', rfl⟩ : ∃ A' cap', v' = .slice A' (n + m) cap' := by
        rcases hown'.2 with ⟨rfl, hx⟩ | ⟨g, cap, cur, rfl, _⟩
        · exact ⟨none, 0, by rw [hx]⟩
        · exact ⟨_, cap, rfl⟩
      exact h A' cap' w' hown' ((Below.refl _ _).grown hg hbase (fun k hk => (World.ownsRow.lt hown k hk).1))
end Go.Proofs.YtediocpdpghbfaaDoor
namespace Go.Proofs.YtediocpdpghbfaaDoor
open Go Go.RowKit

theorem foldl_put (off : Nat) (v : Array Value) (cs : Array Value) (h : off + v.size ≤ cs.size) :
    v.zipIdx.foldl (fun cs (x : Value × Nat) => cs.setIfInBounds (off + x.2) x.1) cs = (cs.toList.take off ++ v.toList ++ cs.toList.drop (off + v.size)).toArray := by
  obtain ⟨vl, rfl⟩ : ∃ vl : List Value, v = vl.toArray := ⟨v.toList, by simp⟩
  have hf := Go.Great.foldl_set off vl 0 cs
  have e : vl.toArray.zipIdx.foldl (fun cs (x : Value × Nat) => cs.setIfInBounds (off + x.2) x.1) cs = (vl.zipIdx 0).foldl (fun cs (x : Value × Nat) => cs.setIfInBounds (off + x.2) x.1) cs := by simp
  rw [e]
  simp only [List.size_toArray] at h ⊢
  apply Array.ext_getElem?
  intro k
  rw [hf.2 k]
  simp only [List.getElem?_toArray, Nat.add_zero]
  rcases Nat.lt_or_ge k off with h1 | h1
  · rw [if_neg (by omega), List.getElem?_append_left (by simp; omega), List.getElem?_append_left (by simp; omega), List.getElem?_take_of_lt h1]
    simp
  · rcases Nat.lt_or_ge k (off + vl.length) with h2 | h2
    · rw [if_pos (by omega), List.getElem?_append_left (by simp; omega), List.getElem?_append_right (by simp; omega)]
      congr 1; simp; omega
    · rw [if_neg (by omega), List.getElem?_append_right (by simp; omega), List.getElem?_drop]
      simp only [List.length_append, List.length_take, Array.length_toList, show min off cs.size = off by omega]
      rw [show off + vl.length + (k - (off + vl.length)) = k by omega]
      simp
/-- parts that lie side by side -/
theorem fill_seq (place : Nat → Option (Nat × Nat)) : ∀ (vs : List Value) (i off : Nat) (cells : Array Value),
    (∀ j v, vs[j]? = some v → place (i + j) = some (off + ((vs.take j).map (·.cells.size)).sum, v.cells.size)) → off + (vs.map (·.cells.size)).sum ≤ cells.size →
    Instr.fill place cells ((vs.zipIdx i).map fun x => (x.2, x.1)) = some (cells.toList.take off ++ vs.flatMap (·.cells.toList) ++ cells.toList.drop (off + (vs.map (·.cells.size)).sum)).toArray
  | [], i, off, cells, _, _ => by simp [Instr.fill]
  | v :: vs, i, off, cells, hp, hs => by
    have h0 := hp 0 v rfl
    simp only [Nat.add_zero, List.take_zero, List.map_nil, List.sum_nil] at h0
    simp only [List.map_cons, List.sum_cons] at hs
    have hsz := foldl_put off v.cells cells (by omega)
    have ih := fill_seq place vs (i + 1) (off + v.cells.size) (v.cells.zipIdx.foldl (fun cs (x : Value × Nat) => cs.setIfInBounds (off + x.2) x.1) cells) (fun j u hj => by
      have := hp (j + 1) u (by simpa using hj)
      rw [show i + 1 + j = i + (j + 1) by omega, this]
      simp; omega) (by rw [hsz]; simp; omega)
    simp only [List.zipIdx_cons, List.map_cons, Instr.fill, h0]
    rw [if_neg (by simp; omega), ih, hsz]
    congr 2
    simp only [List.flatMap_cons, List.map_cons, List.sum_cons]
    have l1 : (cells.toList.take off).length = off := by rw [List.length_take, Array.length_toList]; omega
    have l2 : v.cells.toList.length = v.cells.size := by simp
    rw [List.take_append, List.drop_append, List.take_of_length_le (l := cells.toList.take off ++ v.cells.toList) (by rw [List.length_append, l1, l2]; omega), List.drop_of_length_le (l := cells.toList.take off ++ v.cells.toList) (by rw [List.length_append, l1, l2]; omega), List.length_append, l1, l2, Nat.sub_self, List.take_zero, List.drop_drop]
    simp only [List.append_assoc, List.nil_append, List.append_nil]
    congr 4
    omega
/-- a struct literal with all its parts -/
theorem run_build_all {P : Program} (w : World) (t : TypeId) (fs : Array Field) (vs : List Value) (z : Value) (places : List (Nat × Nat)) (hu : P.underlying t = some (.struct fs)) (hz : (P.info? t).map (·.zero) = some (some z))
    (hpl : (fs.toList.mapM fun f => (P.info? f.type).map fun i => (f.offset, i.size)) = some places)
    (hp : ∀ j v, vs[j]? = some v → places[j]? = some (((vs.take j).map (·.cells.size)).sum, v.cells.size)) (hs : (vs.map (·.cells.size)).sum = z.cells.size) :
    (Instr.build t ((vs.zipIdx 0).map fun x => (x.2, x.1)).toArray).run P w = .ok (.agg (vs.flatMap (·.cells.toList)).toArray) w := by
  refine run_build w t _ _ ?_
  unfold Program.built
  cases hq : P.info? t with
  | none => rw [hq] at hz; cases hz
  | some it =>
    rw [hq] at hz
    simp only [Option.map_some, Option.some.injEq] at hz
    simp only [hu, hz, hpl]
    have := fill_seq (fun j => places.toArray[j]?) vs 0 0 z.cells (fun j v hj => by simpa using hp j v hj) (by omega)
    rw [this]
    simp [hs]
/-- append(out, more...): what becomes of the world's other blocks, too -/
theorem wpList_appWG {P : Program} {w : World} {ops : Array Oper} {rest : List Oper} {o : Oper} {a : Act} {Q : Exit → Act → World → Prop} (T E : TypeId) (z : Value) (sz bytes : Nat) (hT : P.underlying T = some (.slice E))
    (hE : (P.info? E).map (fun i => (i.zero, i.size, i.bytes)) = some (some z, sz, bytes)) (hzs : z.cells.size = sz) (hsz : 0 < sz) (hgd : o.guard = none) (s x : Operand)
    (ho : o.op = .call { callee := .builtin .append, args := #[s, x], argTypes := #[T, T] }) (base : Nat) (A : Option Addr) (n cap : Nat) (xs : List Value) (hs : a.eval s = .slice A n cap) (hown : OW w base E sz A n cap xs)
    (A2 : Option Addr) (m c2 : Nat) (ys : List Value) (hx : a.eval x = .slice A2 m c2) (hl : ys.length = m * sz) (hn2 : A2 = none → c2 = 0) (hy : LV w A2 ys) (h1 : ∀ u ∈ ys, u.oneCell' = true) (hlen : (n + m) * bytes ≤ 140737488355328) (hb1 : 1 ≤ bytes) (hbase : base ≤ w.heap.size)
    (h : ∀ A' cap' w', OW w' base E sz A' (n + m) cap' (xs ++ ys) → Below base w w' → w.grownBy w' (Value.slice A n cap).ownBlock → wpList P ops Q rest (a.put o.dst (.slice A' (n + m) cap')) w') : wpList P ops Q (o :: rest) a w := by
  obtain ⟨i0, hi0, hz0, hz1, hz2⟩ := info_parts hE
  cases A2 with
  | none =>
    have hys := hy.1 rfl
    subst hys
    obtain rfl := hn2 rfl
    obtain rfl : m = 0 := by
      have : m * sz = 0 := by simpa using hl.symm
      rcases Nat.mul_eq_zero.1 this with h | h <;> omega
    refine wpList_append_own_none hgd s x T ho base E i0 sz hT hi0 (.slice A n cap) n xs hs hown hx ?_
    have := h A cap w (by simpa using hown) (Below.refl _ _) ⟨rfl, rfl, rfl, Nat.le_refl _, fun _ _ _ => rfl⟩
    simpa using this
  | some ad =>
    have hnm : n + m ≤ (n + m) * bytes := Nat.le_mul_of_pos_right _ (by omega)
    refine wpList_append_own _ hgd s x T ho base E i0 z sz bytes hT hi0 hz0 hz1 hz2 hzs hsz (.slice A n cap) n xs hs hown ad m c2 ys hx hl ?_ h1 (by unfold maxLen; omega) hlen hbase ?_
    · intro j u hj
      obtain ⟨h1, h2, h3⟩ := hy.2 ad rfl (fun e => by rw [e] at hj; simp at hj)
      obtain ⟨ab, ao, asp⟩ := ad
      simp only at h1 h2 h3
      subst h1
      rw [addr_add]
      exact h3 j u hj
    · intro v' w' hown' hg hnil
      obtain ⟨A', cap', rfl⟩ : ∃ A' cap', v' = .slice A' (n + m) cap' := by
        rcases hown'.2 with ⟨rfl, hx⟩ | ⟨g, cap, cur, rfl, _⟩
        · exact ⟨none, 0, by rw [hx]⟩
        · exact ⟨_, cap, rfl⟩
      exact h A' cap' w' hown' ((Below.refl _ _).grown hg hbase (fun k hk => (World.ownsRow.lt hown k hk).1)) hg
/-- a slice literal with one element -/
theorem run_buildSlice_one {P : Program} (w : World) (T E : TypeId) (z : Value) (sz bytes : Nat) (hT : P.underlying T = some (.slice E)) (hE : (P.info? E).map (fun i => (i.zero, i.size, i.bytes)) = some (some z, sz, bytes))
    (hzs : z.cells.size = sz) (hsz : 0 < sz) (hsm : sz ≤ 100000) (cs : Array Value) (hcs : cs.size = sz) :
    (Instr.buildSlice T 1 #[(0, .agg cs)]).run P w = .ok (.slice (some ⟨w.heap.size, 0, none⟩) 1 1) (w.alloc (.cells cs E)) := by
  obtain ⟨i0, hi0, hz0, hz1, hz2⟩ := info_parts hE
  have hc1 : (Value.agg cs).cells.size = sz := by simp [Value.cells, hcs]
  have hone : ∀ v ∈ [Value.agg cs], v.cells.size = sz := fun v hv => by
    obtain rfl : v = Value.agg cs := by simpa using hv
    exact hc1
  have hf := Go.Great.fill_whole (s := sz) hsz [Value.agg cs] ((Array.range (1 * sz)).map (fun j => z.cells[j % z.cells.size]!)) hone (by simp)
  have hc : ([Value.agg cs].flatMap fun v => v.cells.toList).toArray = cs := by simp [Value.cells]
  rw [hc] at hf
  have hl : (([Value.agg cs].zipIdx 0).map fun x => (x.2, x.1)) = [(0, Value.agg cs)] := rfl
  rw [hl] at hf
  have hso : (sizeOf E).run P w = .ok sz w := by simp [sizeOf, typeInfo, hi0, hz1]
  have hzv : (zeroValue E).run P w = .ok z w := by simp [zeroValue, typeInfo, hi0, hz0]
  unfold Instr.buildSlice
  simp only [Sem.run_bind, run_underlying hT, Result.andThen_ok, hso]
  rw [if_neg (by omega)]
  rw [if_neg (by omega)]
  simp only [Sem.run_bind, hzv, Result.andThen_ok, Sem.run_pure, hf]
  simp [newRow]
end Go.Proofs.YtediocpdpghbfaaDoor
namespace Go.Proofs.YtediocpdpghbfaaDoor
open Go Go.RowKit

theorem info22 : (Tryd.prog.info? 22).map (fun i => (i.zero, i.size, i.bytes)) = some (some (.slice none 0 0), 1, 24) := by kernel_rfl
def fewL (ps : List (List Nat)) : List (List Nat) := (ps.take 20).map (fun p => p.take 40)
theorem fewL_length (ps : List (List Nat)) : (fewL ps).length = min ps.length 20 := by unfold fewL; rw [List.length_map, List.length_take, Nat.min_comm]
theorem fewL_at (ps : List (List Nat)) (j : Nat) (h : j < min ps.length 20) : (fewL ps).getD j [] = (ps.getD j []).take 40 := by
  have h1 : j < ps.length := by omega
  have h2 : j < 20 := by omega
  unfold fewL
  simp [List.getD_eq_getElem?_getD, List.getElem?_take, h2, List.getElem?_eq_getElem h1]
/-- the values vs are slices that read as ps -/
def PV (w : World) (vs : List Value) (ps : List (List Nat)) : Prop :=
  vs.length = ps.length ∧ ∀ j, j < ps.length → ∃ Aj cj, vs[j]? = some (.slice Aj (ps.getD j []).length cj) ∧ (ps.getD j []).length ≤ cj ∧ (ps.getD j []).length ≤ 1000 ∧ cj ≤ 140737488355328 ∧ Bytes (ps.getD j []) ∧ RW w Aj cj (ps.getD j [])
theorem PV.below {w w' : World} {vs : List Value} {ps : List (List Nat)} (h : PV w vs ps) (hb : Below w.heap.size w w') : PV w' vs ps :=
  ⟨h.1, fun j hj => by obtain ⟨Aj, cj, c1, c2, c3, c4, c5, c6⟩ := h.2 j hj; exact ⟨Aj, cj, c1, c2, c3, c4, c5, c6.below hb⟩⟩
theorem PV.one {w : World} {vs : List Value} {ps : List (List Nat)} (h : PV w vs ps) : ∀ u ∈ vs, u.oneCell' = true := fun u hu => by
  obtain ⟨j, hj⟩ := List.getElem?_of_mem hu
  have hjl : j < ps.length := by rw [← h.1]; exact (List.getElem?_eq_some_iff.1 hj).1
  obtain ⟨Aj, cj, c1, _⟩ := h.2 j hjl
  rw [hj] at c1
  injection c1 with c1
  rw [c1]; rfl
theorem pl_of {w : World} {A : Option Addr} {vs : List Value} {ps : List (List Nat)} (h : LV w A vs) (k : PV w vs ps) : PL w A ps := by
  rcases Nat.eq_zero_or_pos ps.length with h0 | h0
  · exact .inl (List.eq_nil_of_length_eq_zero h0)
  · have hne : vs ≠ [] := by intro e; have := k.1; rw [e] at this; simp at this; omega
    cases A with
    | none => exact absurd (h.1 rfl) hne
    | some ad =>
      obtain ⟨h1, h2, h3⟩ := h.2 ad rfl hne
      obtain ⟨g, off, sp⟩ := ad
      simp only at h1
      subst h1
      refine .inr ⟨g, off, rfl, h2, fun j hj => ?_⟩
      obtain ⟨Aj, cj, c1, c2, c3, c4, c5, c6⟩ := k.2 j hj
      exact ⟨Aj, cj, h3 j _ c1, c2, c3, c5, c6⟩
theorem rw_take {w : World} {A : Option Addr} {c : Nat} {b : List Nat} (h : RW w A c b) (k : Nat) : RW w A c (b.take k) := by
  refine ⟨fun e => ⟨(h.1 e).1, by rw [(h.1 e).2]; simp⟩, fun ad hA hn => ?_⟩
  have hb : b ≠ [] := fun e => hn (by rw [e]; simp)
  obtain ⟨h1, h2, h3⟩ := h.2 ad hA hb
  refine ⟨h1, h2, fun j hj => ?_⟩
  rw [List.length_take] at hj
  rw [h3 j (by omega)]
  simp [List.getD_eq_getElem?_getD, List.getElem?_take, show j < k by omega]
theorem bytes_take {b : List Nat} (h : Bytes b) (k : Nat) : Bytes (b.take k) := Bytes.of_mem fun x hx => h.mem x (List.mem_of_mem_take hx)
theorem elem22 : Tryd.prog.elem 22 = 5 := by kernel_rfl
theorem sl22_h (A : Option Addr) (n cap k : Nat) (hk : k ≤ cap) (w : World) :
    (Instr.sliceAt 22 (.slice A n cap) none (some (.int .i64 (k : Int))) none).run Tryd.prog w = .ok (.slice A k cap) w := by
  have hsz : (Tryd.prog.info? 5).map (·.size) = some 1 := by kernel_rfl
  rw [run_sliceAt_slice w 22 _ _ _ _ (by rw [elem22]; exact Tryd.underlying22), run_slice_h w 22 _ n cap (by rw [elem22]; exact Tryd.underlying22) .i64 k (by omega) (by omega)]
  cases hq : Tryd.prog.info? 5 with
  | none => simp [hq] at hsz
  | some i =>
    have hi : i.size = 1 := by simpa [hq] using hsz
    cases A <;> simp [elem22, sizeOf, typeInfo, hq, hi, sliced, Addr.add]
/-- one more leaf -/
theorem pv_snoc {w : World} {vs : List Value} {ps : List (List Nat)} {i : Nat} (h : PV w vs ((fewL ps).take i)) (hi : i < min ps.length 20) {Aj : Option Addr} {cj k : Nat} (hk : ((ps.getD i []).take 40).length = k)
    (h1 : k ≤ cj) (h2 : cj ≤ 140737488355328) (hB : Bytes (ps.getD i [])) (hR : RW w Aj cj (ps.getD i [])) : PV w (vs ++ [.slice Aj k cj]) ((fewL ps).take (i + 1)) := by
  have hl := fewL_length ps
  have hil : ((fewL ps).take i).length = i := by rw [List.length_take]; omega
  refine ⟨by rw [List.length_append, h.1, List.length_take, List.length_take]; simp; omega, fun j hj => ?_⟩
  rw [List.length_take] at hj
  rcases Nat.lt_or_ge j i with hji | hji
  · obtain ⟨A, c, c1, c2, c3, c4, c5, c6⟩ := h.2 j (by rw [hil]; exact hji)
    have e : ((fewL ps).take (i + 1)).getD j [] = ((fewL ps).take i).getD j [] := by rw [getD_take (by omega), getD_take hji]
    rw [e]
    exact ⟨A, c, by rw [List.getElem?_append_left (by rw [h.1, hil]; exact hji)]; exact c1, c2, c3, c4, c5, c6⟩
  · obtain rfl : j = i := by omega
    have e : ((fewL ps).take (j + 1)).getD j [] = (ps.getD j []).take 40 := by rw [getD_take (by omega), fewL_at ps j hi]
    rw [e, hk]
    refine ⟨Aj, cj, ?_, h1, ?_, h2, bytes_take hB 40, rw_take hR 40⟩
    · rw [List.getElem?_append_right (by rw [h.1, hil]; exact Nat.le_refl _), h.1, hil]; simp
    · rw [← hk, List.length_take]; omega
set_option maxRecDepth 100000 in
set_option maxHeartbeats 2000000 in
theorem few_any (w : World) (ps : List (List Nat)) (A : Option Addr) (cap n : Nat) (ln : ps.length = n) (hcap : n ≤ cap) (hcm : cap ≤ 9223372036854775807) (hp : PW w A ps) :
    Calls Tryd.prog 42 #[.slice A n cap] w fun e w' => ∃ A' c' vs, e = .returned (.slice A' (fewL ps).length c') ∧ OW w' w.heap.size 22 1 A' (fewL ps).length c' vs ∧ PV w' vs (fewL ps) ∧ Below w.heap.size w w' := by
  obtain ⟨m, hm⟩ : ∃ m, min n 20 = m := ⟨_, rfl⟩
  have hfl : (fewL ps).length = m := by rw [fewL_length, ln, hm]
  rw [hfl]
  have H0 := Lib.hid (And.intro ln (And.intro hp (And.intro hm hfl)))
  have hmn : m ≤ n := by omega
  have hm20 : m ≤ 20 := by omega
  clear ln hp hm hfl
  go_enter Tryd.func42, Tryd.ntmps42
  go_wp2_with fail
  go_loopg [3, 4] m (fun f ov iv wr => ∃ (i : Nat) (A' : Option Addr) (c' : Nat) (vs : List Value), i + f = m ∧ ov = .slice A' i c' ∧ iv = .int .i64 i ∧ OW wr w.heap.size 22 1 A' i c' vs ∧ PV w vs ((fewL ps).take i) ∧ Below w.heap.size w wr)
  case atStart => exact ⟨0, none, 0, [], by omega, rfl, rfl, ow_nil _ _ _ _, ⟨rfl, fun j hj => by simp at hj⟩, Below.refl _ _⟩
  case round =>
    obtain ⟨i, A', c', vs, hif, rfl, rfl, O, V, B0⟩ := hrel
    by_cases hi : i < m
    · rcases H0.out.2.1 with hnil | ⟨g, off, rfl, hg, hc⟩
      · have := H0.out.1; rw [hnil] at this; simp at this; omega
      obtain ⟨Aj, cj, c1, c2, c3, c4, c5⟩ := hc i (by rw [H0.out.1]; omega)
      have d1 := (B0.cell (p := ⟨g, off + i, none⟩) hg).trans c1
      clear hc c1
      obtain ⟨x, hx⟩ : ∃ x, (ps.getD i []).length = x := ⟨_, rfl⟩
      have t0 : i < n := by omega
      have t1 : i < 20 := by omega
      rw [hx] at d1 c2
      have HE := Lib.hid (And.intro hif (And.intro O (And.intro V (And.intro B0 (And.intro hx (And.intro c4 c5))))))
      clear hif O V B0 hx c4 c5
      rcases Nat.lt_or_ge 40 x with h40 | h40
      · have hkc : 40 ≤ cj := by omega
        have sl := fun W => sl22_h Aj x cj 40 hkc W
        go_wp2_with fail
        refine wp_region_sego [0, 0, 0, 0, 0, 0, 0, 0, 0, 0, 1, 2, 3, 5, 6] [false, false, true] (by kernel_rfl) (by kernel_rfl) (fun _ _ d _ _ h => by cases d <;> exact h) (sego_go fun K0 hK0 => ?_)
        simp only [pickC, ↓reduceIte, Nat.reduceEqDiff, Nat.reduceAdd]
        go_wp2_with fail
        refine hK0.out _ (sego_act fun K2 hK2 => ?_)
        clear hK0 K0
        simp only [pickC, ↓reduceIte, Nat.reduceEqDiff, Nat.reduceAdd]
        go_wp2_with fail
        refine hK2.out _ _ (Below.refl _ _) (sego_go fun K0 hK0 => ?_)
        clear hK2 K2
        simp only [pickC, ↓reduceIte, Nat.reduceEqDiff, Nat.reduceAdd]
        go_wp2_with fail
        refine hK0.out _ (sego_act fun K2 hK2 => ?_)
        clear hK0 K0
        simp only [pickC, ↓reduceIte, Nat.reduceEqDiff, Nat.reduceAdd]
        go_wp2_with fail
        refine hK2.out _ _ ((Below.refl _ _).alloc (Nat.le_refl _) _) (sego_last fun K0 hK0 => ?_)
        clear hK2 K2
        simp only [pickC, ↓reduceIte, Nat.reduceEqDiff, Nat.reduceAdd]
        go_wp2_with fail
        refine hK0.out _ (sego_do fun K2 hK2 => ?_)
        clear hK0 K0
        simp only [pickC, ↓reduceIte, Nat.reduceEqDiff, Nat.reduceAdd]
        refine wpList_appW 41 22 (.slice none 0 0) 1 24 Tryd.underlying41 info22 rfl (by decide) rfl (.tmp 15) (.tmp 27) rfl w.heap.size A' i c' vs rfl ((HE.out.2.1.drew).alloc _) (some ⟨wr.heap.size, 0, none⟩) 1 1 [.slice Aj 40 cj] rfl rfl (by intro e; cases e) (lv_blk (Blk.new wr.drew 22 #[.slice Aj 40 cj])) (one_single rfl) (by omega) (by omega) (by have := HE.out.2.2.2.1.size; simp; omega) ?_
        intro A1 c1 w1 O1 B1
        have H1 := Lib.hid (And.intro O1 B1)
        clear O1 B1
        go_wp2_with fail
        refine hK2.out _ _ (sego_end fun K0 hK0 => ?_)
        clear hK2 K2
        simp only [pickC, ↓reduceIte, Nat.reduceEqDiff, Nat.reduceAdd]
        go_wp2_with fail
        refine hK0.out _ ?_
        clear hK0 K0
        go_wp2_with fail
        go_roundg (gk - 1)
        case measure => have := HE.out.1; omega
        case rel =>
          obtain ⟨hif, O, V, B0, hx, c4, c5⟩ := HE.out
          obtain ⟨O1, B1⟩ := H1.out
          have hmi := H0.out.2.2.1
          exact ⟨i + 1, A1, c1, _, by omega, rfl, by go_num, O1, pv_snoc V (by rw [H0.out.1]; omega) (by rw [List.length_take, hx]; omega) hkc c3 c4 c5, ((B0.drew).alloc (by have := B0.size; simpa using this) _).trans B1⟩
      · have hkc : x ≤ cj := by omega
        have sl := fun W => sl22_h Aj x cj x hkc W
        go_wp2_with fail
        refine wp_region_sego [0, 0, 0, 0, 0, 0, 0, 0, 0, 0, 1, 2, 3, 5, 6] [false, false, true] (by kernel_rfl) (by kernel_rfl) (fun _ _ d _ _ h => by cases d <;> exact h) (sego_go fun K0 hK0 => ?_)
        simp only [pickC, ↓reduceIte, Nat.reduceEqDiff, Nat.reduceAdd]
        go_wp2_with fail
        refine hK0.out _ (sego_act fun K2 hK2 => ?_)
        clear hK0 K0
        simp only [pickC, ↓reduceIte, Nat.reduceEqDiff, Nat.reduceAdd]
        go_wp2_with fail
        refine hK2.out _ _ (Below.refl _ _) (sego_go fun K0 hK0 => ?_)
        clear hK2 K2
        simp only [pickC, ↓reduceIte, Nat.reduceEqDiff, Nat.reduceAdd]
        go_wp2_with fail
        refine hK0.out _ (sego_act fun K2 hK2 => ?_)
        clear hK0 K0
        simp only [pickC, ↓reduceIte, Nat.reduceEqDiff, Nat.reduceAdd]
        go_wp2_with fail
        refine hK2.out _ _ ((Below.refl _ _).alloc (Nat.le_refl _) _) (sego_last fun K0 hK0 => ?_)
        clear hK2 K2
        simp only [pickC, ↓reduceIte, Nat.reduceEqDiff, Nat.reduceAdd]
        go_wp2_with fail
        refine hK0.out _ (sego_do fun K2 hK2 => ?_)
        clear hK0 K0
        simp only [pickC, ↓reduceIte, Nat.reduceEqDiff, Nat.reduceAdd]
        refine wpList_appW 41 22 (.slice none 0 0) 1 24 Tryd.underlying41 info22 rfl (by decide) rfl (.tmp 15) (.tmp 27) rfl w.heap.size A' i c' vs rfl ((HE.out.2.1.drew).alloc _) (some ⟨wr.heap.size, 0, none⟩) 1 1 [.slice Aj x cj] rfl rfl (by intro e; cases e) (lv_blk (Blk.new wr.drew 22 #[.slice Aj x cj])) (one_single rfl) (by omega) (by omega) (by have := HE.out.2.2.2.1.size; simp; omega) ?_
        intro A1 c1 w1 O1 B1
        have H1 := Lib.hid (And.intro O1 B1)
        clear O1 B1
        go_wp2_with fail
        refine hK2.out _ _ (sego_end fun K0 hK0 => ?_)
        clear hK2 K2
        simp only [pickC, ↓reduceIte, Nat.reduceEqDiff, Nat.reduceAdd]
        go_wp2_with fail
        refine hK0.out _ ?_
        clear hK0 K0
        go_wp2_with fail
        go_roundg (gk - 1)
        case measure => have := HE.out.1; omega
        case rel =>
          obtain ⟨hif, O, V, B0, hx, c4, c5⟩ := HE.out
          obtain ⟨O1, B1⟩ := H1.out
          have hmi := H0.out.2.2.1
          exact ⟨i + 1, A1, c1, _, by omega, rfl, by go_num, O1, pv_snoc V (by rw [H0.out.1]; omega) (by rw [List.length_take, hx]; omega) hkc c3 c4 c5, ((B0.drew).alloc (by have := B0.size; simpa using this) _).trans B1⟩
    · obtain rfl : i = m := by omega
      have hfl := H0.out.2.2.2
      have hmi := H0.out.2.2.1
      have HE := Lib.hid (And.intro O (And.intro V B0))
      clear O V B0 hi
      have ways : ¬ i < n ∨ (i < n ∧ ¬ i < 20) := by omega
      rcases ways with t0 | ⟨t0, t1⟩
      · clear hfl hmi
        go_wp2_with fail
        go_ret
        obtain ⟨O, V, B0⟩ := HE.out
        rw [List.take_of_length_le (by have := H0.out.2.2.2; omega)] at V
        exact ⟨A', c', vs, rfl, O, V.below B0, B0⟩
      · clear hfl hmi
        go_wp2_with fail
        go_ret
        obtain ⟨O, V, B0⟩ := HE.out
        rw [List.take_of_length_le (by have := H0.out.2.2.2; omega)] at V
        exact ⟨A', c', vs, rfl, O, V.below B0, B0⟩
end Go.Proofs.YtediocpdpghbfaaDoor
namespace Go.Proofs.YtediocpdpghbfaaDoor
open Go Go.RowKit

theorem run_equalIn_u8s24 (w : World) (a b : List Nat) (ha : a.length = 32) (hb : b.length = 32) :
    (Op.equalIn (9998 + 1 + 1) 24 (.agg (u8s a)) (.agg (u8s b))).run Tryd.prog w = .ok (decide (a = b)) w := by
  have hin : ∀ (w : World) (x y : Int), (Op.equalIn (9998 + 1) 5 (.int .u8 x) (.int .u8 y)).run Tryd.prog w = .ok (x == y) w := fun w x y => run_equalIn_int w 9998 5 .u8 .u8 x y Tryd.underlying5
  revert hin
  generalize 9998 + 1 = d
  intro hin
  rw [Op.equalIn]
  simp only [Sem.run_bind, run_underlying Tryd.underlying24, Result.andThen_ok, run_sizeOf5]
  rw [Std.Legacy.Range.forIn_eq_forIn_range']
  have key : ∀ (ls : List Nat), (∀ i ∈ ls, i < 32) → ∀ w : World, ((forIn (m := Sem) ls ((none, ()) : Option Bool × Unit) fun i r => do
      let x ← Go.part 5 (u8s a) (i * 1)
      let y ← Go.part 5 (u8s b) (i * 1)
      let e ← Op.equalIn d 5 x y
      if (!e) = true then pure (ForInStep.done (some false, ())) else pure (ForInStep.yield (none, ()))).run Tryd.prog w) = .ok (if ls.all (fun i => a.getD i 0 == b.getD i 0) then (none, ()) else (some false, ())) w := by
    intro ls
    induction ls with
    | nil => intro _ w; simp
    | cons i ls ih =>
      intro hi w
      have hi0 := hi i (by simp)
      have ihh := ih (fun j hj => hi j (by simp [hj])) w
      simp only [List.forIn_cons, Sem.run_bind, run_part5 w a i (by omega), run_part5 w b i (by omega), Result.andThen_ok, hin]
      by_cases he : a.getD i 0 = b.getD i 0
      · simp only [he, List.all_cons, beq_self_eq_true, Bool.not_true, Bool.false_eq_true, if_false, Sem.run_pure, Result.andThen_ok, Bool.true_and]
        exact ihh
      · have hne : ((a.getD i 0 : Nat) : Int) ≠ ((b.getD i 0 : Nat) : Int) := by omega
        have h1 : (((a.getD i 0 : Nat) : Int) == ((b.getD i 0 : Nat) : Int)) = false := beq_eq_false_iff_ne.2 hne
        have h2 : (a.getD i 0 == b.getD i 0) = false := by simpa using he
        simp only [h1, List.all_cons, h2, Bool.not_false, if_true, Sem.run_pure, Result.andThen_ok, Bool.false_and, Bool.false_eq_true, if_false]
  have hk := key (List.range' 0 32 1) (by intro i hi; simp at hi; omega) w
  have hz : ([:32] : Std.Legacy.Range).size = 32 := by rfl
  simp only [hz]
  rw [hk]
  simp only [Result.andThen_ok]
  have hiff : (List.range' 0 32 1).all (fun i => a.getD i 0 == b.getD i 0) = decide (a = b) := by
    rw [Bool.eq_iff_iff]
    simp only [List.all_eq_true, decide_eq_true_eq, List.mem_range'_1, beq_iff_eq]
    constructor
    · intro h
      refine List.ext_getElem (by omega) fun i h1 h2 => ?_
      have := h i (by omega)
      simpa [List.getD_eq_getElem?_getD, List.getElem?_eq_getElem h1, List.getElem?_eq_getElem h2] using this
    · rintro rfl i _; rfl
  rw [hiff]
  by_cases he : a = b <;> simp [he]
theorem run_equalIn_dig24 (w : World) (a b : List Nat) (ha : a.length = 32) (hb : b.length = 32) :
    (Op.equalIn 10000 24 (.agg (u8s a)) (.agg (u8s b))).run Tryd.prog w = .ok (decide (a = b)) w := run_equalIn_u8s24 w a b ha hb
theorem info24 : (Tryd.prog.info? 24).map (fun i => (i.zero, i.size, i.bytes)) = some (some (.agg (u8s (zer 32))), 32, 32) := by kernel_rfl
theorem hcell_get (hs : List (List Nat)) (hd : Digs hs) (k j : Nat) (v : Value) (hk : k < hs.length) (h : (bvals (hs.getD k []))[j]? = some v) : (hcell hs)[k * 32 + j]? = some v := by
  have hl : (hs.getD k []).length = 32 := by rw [List.getD_eq_getElem?_getD, List.getElem?_eq_getElem hk]; exact (hd _ (List.getElem_mem hk)).1
  have hj : j < 32 := by have := (List.getElem?_eq_some_iff.1 h).1; rw [bvals_length, hl] at this; exact this
  rw [Nat.mul_comm, hcell_at hs hd k j hk hj, h]
theorem hcell_ne {hs : List (List Nat)} (hd : Digs hs) (h : 0 < hs.length) : hcell hs ≠ [] := fun e => by
  have := hcell_length hs hd; rw [e] at this; simp at this; omega
theorem lv_spot {w : World} {ad : Addr} {xs : List Value} (h : LV w (some ad) xs) (hne : xs ≠ []) : ∃ g off, ad = ⟨g, off, none⟩ ∧ g < w.heap.size := by
  obtain ⟨h1, h2, _⟩ := h.2 ad rfl hne
  obtain ⟨g, off, sp⟩ := ad
  simp only at h1
  subst h1
  exact ⟨g, off, rfl, h2⟩
theorem lv_dig {w : World} {g off : Nat} {hs : List (List Nat)} (h : LV w (some ⟨g, off, none⟩) (hcell hs)) (hd : Digs hs) (k : Nat) (hk : k < hs.length) {ty : TypeId} (hu : Tryd.prog.underlying ty = some (.array 32 5)) (hi : (Tryd.prog.info? ty).map (·.size) = some 32) :
    (loadAgg ty (.pointer (some ⟨g, off + k * 32, none⟩))).run Tryd.prog w = .ok (.agg (u8s (hs.getD k []))) w := by
  have hl : (hs.getD k []).length = 32 := by rw [List.getD_eq_getElem?_getD, List.getElem?_eq_getElem hk]; exact (hd _ (List.getElem_mem hk)).1
  have := loadAgg_run (P := Tryd.prog) (w := w) (ty := ty) (g := g) (off := off + k * 32) (u8s (hs.getD k [])).toList hu rfl (by rw [Array.length_toList, u8s_size, hl]; exact hi) (fun j v hv => by
    rw [u8s_bvals] at hv
    rw [Nat.add_assoc]
    exact (h.2 _ rfl (hcell_ne hd (by omega))).2.2 _ _ (hcell_get hs hd k j v hk hv))
  simpa using this
theorem hcell_one (hs : List (List Nat)) : ∀ u ∈ hcell hs, u.oneCell' = true := fun u hu => by
  simp only [hcell, List.mem_flatMap, bvals, List.mem_map] at hu
  obtain ⟨_, _, _, _, rfl⟩ := hu; rfl
theorem bvals_one (d : List Nat) : ∀ u ∈ bvals d, u.oneCell' = true := fun u hu => by
  simp only [bvals, List.mem_map] at hu
  obtain ⟨_, _, rfl⟩ := hu; rfl
theorem hcell_snoc (hs : List (List Nat)) (d : List Nat) : hcell (hs ++ [d]) = hcell hs ++ bvals d := by simp [hcell]
theorem dsize25 : (Tryd.prog.info? 25).map (·.size) = some 32 := by kernel_rfl
theorem dsize24 : (Tryd.prog.info? 24).map (·.size) = some 32 := by kernel_rfl
/-! a slice of one digest, laid by a literal: the reference's type -/
def bs72 (ps : Array (Nat × Value)) : Sem Value := Instr.buildSlice 72 1 ps
theorem bs72_rule (ps : Array (Nat × Value)) : Instr.buildSlice 72 1 ps = bs72 ps := rfl
theorem bs72_run (d : List Nat) (hd : d.length = 32) (w : World) : (bs72 #[(0, .agg (u8s d))]).run Tryd.prog w = .ok (.slice (some ⟨w.heap.size, 0, none⟩) 1 1) (w.alloc (.cells (u8s d) 24)) := by
  obtain ⟨i0, hi0, hz0, hz1, hz2⟩ := info_parts info24
  have hsz : (Value.agg (u8s d)).cells.size = 32 := by simp [Value.cells, u8s_size, hd]
  have hone : ∀ v ∈ [Value.agg (u8s d)], v.cells.size = 32 := fun v hv => by
    obtain rfl : v = Value.agg (u8s d) := by simpa using hv
    exact hsz
  have hf := Go.Great.fill_whole (s := 32) (by omega) [Value.agg (u8s d)] ((Array.range (1 * 32)).map (fun j => (u8s (zer 32))[j % (u8s (zer 32)).size]!)) hone (by simp)
  have hc : ([Value.agg (u8s d)].flatMap fun v => v.cells.toList).toArray = u8s d := by simp [Value.cells]
  rw [hc] at hf
  have hl : (([Value.agg (u8s d)].zipIdx 0).map fun x => (x.2, x.1)) = [(0, Value.agg (u8s d))] := rfl
  rw [hl] at hf
  have hso : (sizeOf 24).run Tryd.prog w = .ok 32 w := by simp [sizeOf, typeInfo, hi0, hz1]
  have hzv : (zeroValue 24).run Tryd.prog w = .ok (.agg (u8s (zer 32))) w := by simp [zeroValue, typeInfo, hi0, hz0]
  have e1 : (Value.agg (u8s (zer 32))).cells = u8s (zer 32) := rfl
  unfold bs72 Instr.buildSlice
  simp only [Sem.run_bind, run_underlying Tryd.underlying72, Result.andThen_ok, hso]
  rw [if_neg (by omega)]
  rw [if_neg (by omega)]
  simp only [Sem.run_bind, hzv, Result.andThen_ok, Sem.run_pure, e1, hf]
  simp [newRow]
attribute [local go_sem ↓] ld25 ld24 bs72_rule
set_option maxRecDepth 100000 in
set_option maxHeartbeats 2000000 in
theorem to_any (w : World) (hs : List (List Nat)) (A : Option Addr) (n cap : Nat) (hl : hs.length = n) (hd : Digs hs) (hn : n ≤ 100000) (hL : LV w A (hcell hs)) :
    Calls Tryd.prog 51 #[.slice A n cap] w fun e w' => ∃ A' c', e = .returned (.slice A' n c') ∧ OW w' w.heap.size 24 32 A' n c' (hcell hs) ∧ Below w.heap.size w w' := by
  have H0 := Lib.hid (And.intro hl (And.intro hd hL))
  clear hl hd hL
  go_enter Tryd.func51, Tryd.ntmps51
  go_wp2_with fail
  go_loopg [3, 4] n (fun f ov iv wr => ∃ (i : Nat) (A' : Option Addr) (c' : Nat), i + f = n ∧ ov = .slice A' i c' ∧ iv = .int .i64 i ∧ OW wr w.heap.size 24 32 A' i c' (hcell (hs.take i)) ∧ Below w.heap.size w wr)
  case atStart => exact ⟨0, none, 0, by omega, rfl, rfl, ow_nil _ _ _ _, Below.refl _ _⟩
  case round =>
    obtain ⟨i, A', c', hif, rfl, rfl, O, B0⟩ := hrel
    by_cases hi : i < n
    · have hne := hcell_ne H0.out.2.1 (by rw [H0.out.1]; omega)
      cases A with
      | none => exact absurd (H0.out.2.2.1 rfl) hne
      | some ad =>
        obtain ⟨g, off, rfl, hg⟩ := lv_spot H0.out.2.2 hne
        have hLr := H0.out.2.2.below B0
        have l1 := lv_dig hLr H0.out.2.1 i (by rw [H0.out.1]; exact hi) Tryd.underlying25 dsize25
        have hdk := digs_at H0.out.2.1 (k := i) (by rw [H0.out.1]; exact hi)
        have ht : hs.take (i + 1) = hs.take i ++ [hs.getD i []] := by
          rw [List.take_succ_eq_append_getElem (by rw [H0.out.1]; exact hi)]; simp [List.getD_eq_getElem?_getD, List.getElem?_eq_getElem (show i < hs.length by rw [H0.out.1]; exact hi)]
        have HE := Lib.hid (And.intro hif (And.intro O (And.intro B0 ht)))
        clear hif O B0 ht hLr hne
        generalize hs.getD i [] = d at *
        have hd32 := hdk.1
        have b1 := bs72_run d hd32
        go_wp2_with (at_builtin; refine wpList_appW 72 24 (.agg (u8s (zer 32))) 32 32 Tryd.underlying72 info24 rfl (by decide) rfl (.tmp 11) (.tmp 16) rfl w.heap.size A' i c' (hcell (hs.take i)) rfl (HE.out.2.1.alloc _) (some ⟨wr.heap.size, 0, none⟩) 1 1 (bvals d) rfl (by rw [bvals_length, hd32]) (by intro e; cases e) (by rw [← u8s_bvals]; exact lv_blk (Blk.new wr 24 (u8s d))) (bvals_one d) (by omega) (by omega) (by have := HE.out.2.2.1.size; simp; omega) ?_; intro A1 c1 w1 O1 B1; have H1 := Lib.hid (And.intro O1 B1); clear O1 B1)
        go_roundg (gk - 1)
        case measure => have := HE.out.1; omega
        case rel =>
          obtain ⟨hif, O, B0, ht⟩ := HE.out
          obtain ⟨O1, B1⟩ := H1.out
          exact ⟨i + 1, A1, c1, by omega, rfl, by go_num, by rw [ht, hcell_snoc]; exact O1, (B0.alloc (by have := B0.size; omega) _).trans B1⟩
    · obtain rfl : i = n := by omega
      have HE := Lib.hid (And.intro O B0)
      clear O B0 hi
      go_wp2_with fail
      go_ret
      obtain ⟨O, B0⟩ := HE.out
      rw [List.take_of_length_le (by rw [H0.out.1]; omega)] at O
      exact ⟨A', c', rfl, O, B0⟩
set_option maxRecDepth 100000 in
set_option maxHeartbeats 2000000 in
theorem same_any (w : World) (xs ys : List (List Nat)) (A B : Option Addr) (n m cap cap2 : Nat) (hl : xs.length = n) (hl2 : ys.length = m) (hd : Digs xs) (hd2 : Digs ys) (hn : n ≤ 100000) (hm : m ≤ 100000) (hL : LV w A (hcell xs)) (hL2 : LV w B (hcell ys)) :
    Calls Tryd.prog 50 #[.slice A n cap, .slice B m cap2] w fun e w' => e = .returned (.bool (decide (xs = ys))) ∧ Below w.heap.size w w' := by
  have H0 := Lib.hid (And.intro hl (And.intro hd (And.intro hL (And.intro hl2 (And.intro hd2 hL2)))))
  clear hl hd hL hl2 hd2 hL2
  by_cases hnm : n = m
  · subst hnm
    go_enter Tryd.func50, Tryd.ntmps50
    go_wp2_with fail
    go_loopg [5] n (fun f iv wr => ∃ (i : Nat), i + f = n ∧ iv = .int .i64 i ∧ xs.take i = ys.take i ∧ Below w.heap.size w wr)
    case atStart => exact ⟨0, by omega, rfl, rfl, Below.refl _ _⟩
    case round =>
      obtain ⟨i, hif, rfl, he, B0⟩ := hrel
      by_cases hi : i < n
      · have hne := hcell_ne H0.out.2.1 (by rw [H0.out.1]; omega)
        have hne2 := hcell_ne H0.out.2.2.2.2.1 (by rw [H0.out.2.2.2.1]; omega)
        cases A with
        | none => exact absurd (H0.out.2.2.1.1 rfl) hne
        | some ad =>
        cases B with
        | none => exact absurd (H0.out.2.2.2.2.2.1 rfl) hne2
        | some bd =>
        obtain ⟨g, off, rfl, hg⟩ := lv_spot H0.out.2.2.1 hne
        obtain ⟨g2, off2, rfl, hg2⟩ := lv_spot H0.out.2.2.2.2.2 hne2
        have l1 := lv_dig (H0.out.2.2.1.below B0.drew) H0.out.2.1 i (by rw [H0.out.1]; exact hi) Tryd.underlying24 dsize24
        have l2 := lv_dig (H0.out.2.2.2.2.2.below B0.drew) H0.out.2.2.2.2.1 i (by rw [H0.out.2.2.2.1]; exact hi) Tryd.underlying24 dsize24
        have hdk := (digs_at H0.out.2.1 (k := i) (by rw [H0.out.1]; exact hi)).1
        have hdk2 := (digs_at H0.out.2.2.2.2.1 (k := i) (by rw [H0.out.2.2.2.1]; exact hi)).1
        have ht : xs.take (i + 1) = xs.take i ++ [xs.getD i []] := by
          rw [List.take_succ_eq_append_getElem (by rw [H0.out.1]; exact hi)]; simp [List.getD_eq_getElem?_getD, List.getElem?_eq_getElem (show i < xs.length by rw [H0.out.1]; exact hi)]
        have ht2 : ys.take (i + 1) = ys.take i ++ [ys.getD i []] := by
          rw [List.take_succ_eq_append_getElem (by rw [H0.out.2.2.2.1]; exact hi)]; simp [List.getD_eq_getElem?_getD, List.getElem?_eq_getElem (show i < ys.length by rw [H0.out.2.2.2.1]; exact hi)]
        have hcon : xs = ys → xs.getD i [] = ys.getD i [] := fun e => by rw [e]
        have HE := Lib.hid (And.intro hif (And.intro he (And.intro B0 (And.intro ht (And.intro ht2 hcon)))))
        clear hif he B0 ht ht2 hne hne2 hcon
        generalize xs.getD i [] = d at *
        generalize ys.getD i [] = d2 at *
        by_cases hdd : d = d2
        · have hq := fun W => run_equalIn_dig24 W d d2 hdk hdk2
          rw [decide_eq_true hdd] at hq
          have HD := Lib.hid hdd
          clear hdd
          go_wp2_with fail
          refine wp_region_sego [0, 0, 0, 0, 0, 0, 0, 0, 0] [] (by kernel_rfl) (by kernel_rfl) (fun _ _ d _ _ h => by cases d <;> exact h) (sego_end fun K0 hK0 => ?_)
          simp only [pickC, ↓reduceIte, Nat.reduceEqDiff, Nat.reduceAdd]
          go_wp2_with fail
          refine hK0.out _ ?_
          clear hK0 K0
          go_wp2_with fail
          go_roundg (gk - 1)
          case measure => have := HE.out.1; omega
          case rel =>
            obtain ⟨hif, he, B0, ht, ht2, _⟩ := HE.out
            exact ⟨i + 1, by omega, by go_num, by rw [ht, ht2, he, HD.out], B0.drew⟩
        · have hq := fun W => run_equalIn_dig24 W d d2 hdk hdk2
          rw [decide_eq_false hdd] at hq
          have HD := Lib.hid hdd
          clear hdd
          go_wp2_with fail
          refine wp_region_sego [0, 0, 0, 0, 0, 0, 0, 0, 0] [] (by kernel_rfl) (by kernel_rfl) (fun _ _ d _ _ h => by cases d <;> exact h) (sego_end fun K0 hK0 => ?_)
          simp only [pickC, ↓reduceIte, Nat.reduceEqDiff, Nat.reduceAdd]
          go_wp2_with fail
          refine hK0.out _ ?_
          clear hK0 K0
          go_wp2_with fail
          go_ret
          have hf : decide (xs = ys) = false := decide_eq_false (fun e => HD.out (HE.out.2.2.2.2.2 e))
          rw [hf]
          exact ⟨rfl, HE.out.2.2.1.drew⟩
      · obtain rfl : i = n := by omega
        have HE := Lib.hid (And.intro he B0)
        clear he B0 hi
        go_wp2_with fail
        go_ret
        have he := HE.out.1
        rw [List.take_of_length_le (by rw [H0.out.1]; omega), List.take_of_length_le (by rw [H0.out.2.2.2.1]; omega)] at he
        rw [decide_eq_true he]
        exact ⟨rfl, HE.out.2⟩
  · have t0 : ((n : Int) != (m : Int)) = true := by rw [bne_iff_ne]; omega
    have hf : decide (xs = ys) = false := decide_eq_false (fun e => hnm (by rw [← H0.out.1, ← H0.out.2.2.2.1, e]))
    rw [hf]
    clear hf hnm
    go_enter Tryd.func50, Tryd.ntmps50
    go_wp2_with fail
    go_ret
    exact ⟨rfl, Below.refl _ _⟩
end Go.Proofs.YtediocpdpghbfaaDoor
namespace Go.Proofs.YtediocpdpghbfaaDoor
open Go Go.RowKit

theorem OW.set1 {w : World} {base E g n cap : Nat} {xs : List Value} (h : OW w base E 1 (some ⟨g, 0, none⟩) n cap xs) (k : Nat) (v : Value) : OW (w.setCell ⟨g, k, none⟩ v) base E 1 (some ⟨g, 0, none⟩) n cap (xs.set k v) := by
  refine ⟨by rw [List.length_set]; exact h.1, ?_⟩
  rcases h.2 with ⟨hv, _⟩ | ⟨g', cap', cur, hv, hb, hg, h3, h4, h5, h6⟩
  · cases hv
  · injection hv with e1 e2 e3
    injection e1 with e1
    injection e1 with e1
    subst e1
    subst e3
    refine .inr ⟨g, cap, cur.setIfInBounds k v, rfl, hb, (show Blk w g E cur from hg).set_ k v, h3, h4, by simpa using h5, ?_⟩
    rw [Array.toList_setIfInBounds, ← h6, List.take_set]
theorem OW.free {w : World} {base E sz g n cap : Nat} {xs : List Value} (h : OW w base E sz (some ⟨g, 0, none⟩) n cap xs) (k : Nat) : w.frozen? ⟨g, k, none⟩ = false := by
  rcases h.2 with ⟨hv, _⟩ | ⟨g', cap', cur, hv, hb, hg, h3, h4, h5, h6⟩
  · cases hv
  · injection hv with e1 e2 e3
    injection e1 with e1
    injection e1 with e1
    subst e1
    exact (show Blk w g E cur from hg).frozen k
theorem OW.some_ {w : World} {base E sz n cap : Nat} {A : Option Addr} {xs : List Value} (h : OW w base E sz A n cap xs) (hn : 0 < n) : ∃ g, A = some ⟨g, 0, none⟩ ∧ base ≤ g ∧ g < w.heap.size := by
  rcases h.2 with ⟨hv, hz⟩ | ⟨g', cap', cur, hv, hb, hg, h3, h4, h5, h6⟩
  · omega
  · injection hv with e1 e2 e3
    exact ⟨g', e1, hb, (Array.getElem?_eq_some_iff.1 hg).1⟩
theorem OW.at1 {w : World} {base E g n cap : Nat} {xs : List Value} (h : OW w base E 1 (some ⟨g, 0, none⟩) n cap xs) {k : Nat} {v : Value} (hk : xs[k]? = some v) : w.cell? ⟨g, k, none⟩ = some v := by
  have := (h.lv.2 _ rfl (fun e => by rw [e] at hk; simp at hk)).2.2 k v hk
  simpa using this
theorem OW.drew' {w : World} {base E sz n cap : Nat} {A : Option Addr} {xs : List Value} (h : OW w base E sz A n cap xs) : OW w.drew base E sz A n cap xs := h
/-- the list behind i swaps -/
def revS (xs : List Value) (i : Nat) : List Value := (List.range xs.length).map fun j => if j < i ∨ xs.length ≤ j + i then xs.getD (xs.length - 1 - j) undef else xs.getD j undef
theorem revS_length (xs : List Value) (i : Nat) : (revS xs i).length = xs.length := by simp [revS]
theorem revS_at (xs : List Value) (i j : Nat) (h : j < xs.length) : (revS xs i)[j]? = some (if j < i ∨ xs.length ≤ j + i then xs.getD (xs.length - 1 - j) undef else xs.getD j undef) := by
  simp [revS, h]
theorem revS_zero (xs : List Value) : revS xs 0 = xs := by
  refine List.ext_getElem? fun j => ?_
  rcases Nat.lt_or_ge j xs.length with h | h
  · rw [revS_at xs 0 j h, if_neg (by omega)]; simp [List.getD_eq_getElem?_getD, h]
  · rw [List.getElem?_eq_none (by rw [revS_length]; exact h), List.getElem?_eq_none h]
theorem revS_step (xs : List Value) (i : Nat) (h : 2 * i + 1 < xs.length) : ((revS xs i).set i (xs.getD (xs.length - 1 - i) undef)).set (xs.length - 1 - i) (xs.getD i undef) = revS xs (i + 1) := by
  refine List.ext_getElem? fun j => ?_
  rcases Nat.lt_or_ge j xs.length with hj | hj
  · rw [revS_at xs (i + 1) j hj, List.getElem?_set, List.length_set, revS_length, List.getElem?_set, revS_length, revS_at xs i j hj]
    by_cases h1 : xs.length - 1 - i = j
    · rw [if_pos h1, if_pos (by omega), if_pos (by omega), show xs.length - 1 - j = i by omega]
    · rw [if_neg h1]
      by_cases h2 : i = j
      · rw [if_pos h2, if_pos (by omega), if_pos (by omega), h2]
      · rw [if_neg h2]
        by_cases h3 : j < i ∨ xs.length ≤ j + i
        · rw [if_pos h3, if_pos (by omega)]
        · rw [if_neg h3, if_neg (by omega)]
  · rw [List.getElem?_eq_none (by simp [revS_length]; omega), List.getElem?_eq_none (by rw [revS_length]; exact hj)]
theorem revS_end (xs : List Value) (i : Nat) (h : xs.length ≤ 2 * i + 1) : revS xs i = xs.reverse := by
  refine List.ext_getElem? fun j => ?_
  rcases Nat.lt_or_ge j xs.length with hj | hj
  · rw [revS_at xs i j hj, List.getElem?_reverse hj]
    have hj2 : xs.length - 1 - j < xs.length := by omega
    by_cases h3 : j < i ∨ xs.length ≤ j + i
    · rw [if_pos h3]; simp [List.getD_eq_getElem?_getD, hj2]
    · rw [if_neg h3, show xs.length - 1 - j = j by omega]; simp [List.getD_eq_getElem?_getD, hj]
  · rw [List.getElem?_eq_none (by rw [revS_length]; exact hj), List.getElem?_eq_none (by rw [List.length_reverse]; exact hj)]
set_option maxRecDepth 100000 in
set_option maxHeartbeats 2000000 in
theorem rev_any (w : World) (bl : List Bool) (base : Nat) (A : Option Addr) (n cap : Nat) (hO : OW w base 4 1 A n cap (bl.map Value.bool)) (hn : n ≤ 100000) :
    Calls Tryd.prog 91 #[.slice A n cap] w fun e w' => e = .returned (.tuple #[]) ∧ OW w' base 4 1 A n cap (bl.reverse.map Value.bool) ∧ Below base w w' := by
  obtain ⟨xs, hxs⟩ : ∃ xs, bl.map Value.bool = xs := ⟨_, rfl⟩
  rw [hxs] at hO
  have hl : xs.length = n := by have := hO.1; omega
  have hb : ∀ k, k < n → xs.getD k undef = .bool (bl.getD k false) := fun k hk => by
    have hkb : k < bl.length := by rw [← hl, ← hxs, List.length_map] at hk; exact hk
    rw [← hxs]; simp [List.getD_eq_getElem?_getD, List.getElem?_eq_getElem hkb]
  have HO := Lib.hid (And.intro hO (And.intro hl (And.intro hb hxs)))
  clear hO hl hb hxs
  go_enter Tryd.func91, Tryd.ntmps91
  go_wp2_with fail
  go_loopg [2, 3] n (fun f iv jv wr => ∃ i : Nat, i + f = n ∧ 2 * i ≤ n + 1 ∧ iv = .int .i64 i ∧ jv = .int .i64 ((n : Int) - 1 - i) ∧ OW wr base 4 1 A n cap (revS xs i) ∧ Below base w wr)
  case atStart => exact ⟨0, by omega, by omega, rfl, by simp, by rw [revS_zero]; exact HO.out.1, Below.refl _ _⟩
  case round =>
    obtain ⟨i, hif, h2i, rfl, rfl, O, B0⟩ := hrel
    by_cases hi : 2 * i + 1 < n
    · obtain ⟨g, rfl, hbg, hg⟩ := O.some_ (by omega)
      obtain ⟨j, hj⟩ : ∃ j : Nat, n - 1 - i = j := ⟨_, rfl⟩
      have hjI : (n : Int) - 1 - i = (j : Int) := by omega
      have c1 := O.at1 (k := i) (v := xs.getD i undef) (by rw [revS_at xs i i (by rw [HO.out.2.1]; omega), if_neg (by rw [HO.out.2.1]; omega)])
      have c2 := O.at1 (k := j) (v := xs.getD j undef) (by rw [revS_at xs i j (by rw [HO.out.2.1]; omega), if_neg (by rw [HO.out.2.1]; omega)])
      have f1 := O.free i
      have f2 := O.free j
      have hst := revS_step xs i (by rw [HO.out.2.1]; exact hi)
      rw [HO.out.2.1, hj, HO.out.2.2.1 i (by omega), HO.out.2.2.1 j (by omega)] at hst
      rw [hjI]
      have HE := Lib.hid (And.intro hif (And.intro O (And.intro B0 (And.intro hst hjI))))
      clear hif O B0 hst hj
      have t1 : i < n := by omega
      have t2 : j < n := by omega
      have t3 : (i : Int) < (j : Int) := by omega
      clear hjI
      rw [HO.out.2.2.1 i (by omega)] at c1
      rw [HO.out.2.2.1 j (by omega)] at c2
      generalize bl.getD i false = x at *
      generalize bl.getD j false = y at *
      have nij : ¬ i = j := by omega
      go_wp2_with fail
      go_region
      all_goals
        go_wp2_with fail
        go_roundg (gk - 1)
        case measure => have := HE.out.1; omega
        case rel =>
          obtain ⟨hif, O, B0, hst, hjI⟩ := HE.out
          refine ⟨i + 1, by omega, by omega, by go_num, by congr 1; omega, ?_, (B0.drew.setCell hbg _).setCell hbg _⟩
          rw [← hst]
          exact (O.drew'.set1 i _).set1 j _
    · have t3 : decide ((i : Int) < (n : Int) - 1 - (i : Int)) = false := by simp; omega
      have he := revS_end xs i (by rw [HO.out.2.1]; omega)
      rw [he] at O
      have HE := Lib.hid (And.intro O B0)
      clear O B0 he hi hif h2i
      go_wp2_with fail
      go_end0
      refine ⟨rfl, ?_, HE.out.2⟩
      rw [List.map_reverse, HO.out.2.2.2]
      exact HE.out.1
end Go.Proofs.YtediocpdpghbfaaDoor
namespace Go.Proofs.YtediocpdpghbfaaDoor
open Go Go.RowKit

theorem info4 : (Tryd.prog.info? 4).map (fun i => (i.zero, i.size, i.bytes)) = some (some (.bool false), 1, 1) := by kernel_rfl
theorem sidesT_step (n i : Nat) (h : 2 ≤ n) : sidesT n n i = if splitL n ≤ i then true :: sidesT (n - splitL n) (n - splitL n) (i - splitL n) else false :: sidesT (splitL n) (splitL n) i := by
  obtain ⟨m, rfl⟩ : ∃ m, n = m + 1 := ⟨n - 1, by omega⟩
  have hk := splitL_bd (m + 1) h
  conv => lhs; unfold sidesT
  rw [if_pos (by omega), sidesT_fuel m _ _ (by omega), sidesT_fuel m _ _ (by omega)]
theorem sidesT_one (n i : Nat) (h : n ≤ 1) : sidesT n n i = [] := by
  have := sidesL_one n i h; unfold sidesL at this; simpa using this
set_option maxRecDepth 100000 in
set_option maxHeartbeats 2000000 in
theorem sides_any (n i : Nat) (hn1 : 1 ≤ n) (hn : n ≤ 65536) (hi : i < n) (w : World) :
    Calls Tryd.prog 79 #[.int .i64 n, .int .i64 i] w fun e w' => ∃ A' c', e = .returned (.slice A' (sidesL n i).length c') ∧ OW w' w.heap.size 4 1 A' (sidesL n i).length c' ((sidesL n i).map Value.bool) ∧ Below w.heap.size w w' := by
  obtain ⟨S, hS⟩ : ∃ S, sidesT n n i = S := ⟨_, rfl⟩
  have hSl : S.length ≤ n := by rw [← hS]; exact sidesT_length n n i
  have HS := Lib.hid hS
  clear hS
  go_enter Tryd.func79, Tryd.ntmps79
  go_wp2_with fail
  go_loopg [5, 0, 1] n (fun f ov sv xv wr => ∃ (bl : List Bool) (m : Nat) (A' : Option Addr) (c' sz ix : Nat), bl.length = m ∧ ov = .slice A' m c' ∧ sv = .int .i64 sz ∧ xv = .int .i64 ix ∧ sz ≤ f ∧ f ≤ n ∧ 1 ≤ sz ∧ ix < sz ∧ OW wr w.heap.size 4 1 A' m c' (bl.map Value.bool) ∧ bl ++ sidesT sz sz ix = S ∧ Below w.heap.size w wr)
  case atStart => exact ⟨[], 0, none, 0, n, i, rfl, rfl, rfl, rfl, by omega, by omega, hn1, hi, ow_nil _ _ _ _, HS.out, Below.refl _ _⟩
  case round =>
    obtain ⟨bl, m, A', c', sz, ix, hm, rfl, rfl, rfl, hf, hf2, h1, hx, O, hb, B0⟩ := hrel
    have hml : m ≤ n := by have := congrArg List.length hb; rw [List.length_append, hm] at this; omega
    by_cases hsz : 2 ≤ sz
    · have hk := splitL_bd sz hsz
      have hst := sidesT_step sz ix hsz
      have HK := Lib.hid (fun W => msplit_any sz (by omega) W)
      have HE := Lib.hid (And.intro hm (And.intro O (And.intro hb (And.intro hst B0))))
      clear hm O hb hst B0
      generalize splitL sz = k at *
      have t1 : 1 < sz := by omega
      go_wp2_with fail
      refine (HK.out _).mono ?_
      rintro e w1 ⟨rfl, rfl⟩
      by_cases hkx : k ≤ ix
      · go_wp2_with (at_builtin; refine wpList_appW 116 4 (.bool false) 1 1 Tryd.underlying116 info4 rfl (by decide) rfl (.tmp 11) (.tmp 15) rfl w.heap.size A' m c' (bl.map Value.bool) rfl (HE.out.2.1.alloc _) (some ⟨wr.heap.size, 0, none⟩) 1 1 [.bool true] rfl rfl (by intro e; cases e) (lv_blk (Blk.new wr 4 #[.bool true])) (one_single rfl) (by omega) (by omega) (by have := HE.out.2.2.2.2.size; simp; omega) ?_; intro A1 c1 w1 O1 B1; have H1 := Lib.hid (And.intro O1 B1); clear O1 B1)
        go_roundg (gk - 1)
        case measure => omega
        case rel =>
          obtain ⟨hm, O, hb, hst, B0⟩ := HE.out
          rw [if_pos hkx] at hst
          exact ⟨bl ++ [true], m + 1, A1, c1, sz - k, ix - k, by simp [hm], rfl, by congr 1; omega, by congr 1; omega, by omega, by omega, by omega, by omega, by rw [List.map_append]; exact H1.out.1, by rw [← hb, hst]; simp, (B0.alloc (by have := B0.size; omega) _).trans H1.out.2⟩
      · go_wp2_with (at_builtin; refine wpList_appW 116 4 (.bool false) 1 1 Tryd.underlying116 info4 rfl (by decide) rfl (.tmp 11) (.tmp 15) rfl w.heap.size A' m c' (bl.map Value.bool) rfl (HE.out.2.1.alloc _) (some ⟨wr.heap.size, 0, none⟩) 1 1 [.bool false] rfl rfl (by intro e; cases e) (lv_blk (Blk.new wr 4 #[.bool false])) (one_single rfl) (by omega) (by omega) (by have := HE.out.2.2.2.2.size; simp; omega) ?_; intro A1 c1 w1 O1 B1; have H1 := Lib.hid (And.intro O1 B1); clear O1 B1)
        go_roundg (gk - 1)
        case measure => omega
        case rel =>
          obtain ⟨hm, O, hb, hst, B0⟩ := HE.out
          rw [if_neg hkx] at hst
          exact ⟨bl ++ [false], m + 1, A1, c1, k, ix, by simp [hm], rfl, rfl, rfl, by omega, by omega, by omega, by omega, by rw [List.map_append]; exact H1.out.1, by rw [← hb, hst]; simp, (B0.alloc (by have := B0.size; omega) _).trans H1.out.2⟩
    · obtain rfl : sz = 1 := by omega
      rw [sidesT_one 1 ix (by omega), List.append_nil] at hb
      have HR := Lib.hid (rev_any wr bl w.heap.size A' m c' O (by omega))
      have HE := Lib.hid (And.intro hm (And.intro hb B0))
      clear O hm hb B0 hsz
      go_wp2_with fail
      refine HR.out.mono ?_
      rintro e w1 ⟨rfl, O1, B1⟩
      have H1 := Lib.hid (And.intro O1 B1)
      clear O1 B1
      go_wp2_with fail
      go_ret
      have hr : sidesL n i = bl.reverse := by unfold sidesL; rw [HS.out, HE.out.2.1]
      have hl : (sidesL n i).length = m := by rw [hr, List.length_reverse]; exact HE.out.1
      rw [hl, hr]
      exact ⟨A', c', rfl, H1.out.1, HE.out.2.2.trans H1.out.2⟩
end Go.Proofs.YtediocpdpghbfaaDoor
namespace Go.Proofs.YtediocpdpghbfaaDoor
open Go Go.RowKit

/-! ### plain -/
def stepIn (r : Bool) (p h : List Nat) : List Nat := 1 :: (if r then p ++ h else h ++ p)
theorem stepIn_sha (r : Bool) (p h : List Nat) : sha (stepIn r p h) = stepS r p h := by cases r <;> rfl
theorem stepIn_length (r : Bool) (p h : List Nat) (hp : p.length = 32) (hh : h.length = 32) : (stepIn r p h).length = 65 := by cases r <;> simp [stepIn, hp, hh]
theorem stepIn_bytes (r : Bool) (p h : List Nat) (hp : Bytes p) (hh : Bytes h) : Bytes (stepIn r p h) := by
  cases r
  · exact bytes_cons (by omega) (hh.append hp)
  · exact bytes_cons (by omega) (hp.append hh)
/-- the inputs and hashes of the steps behind i sides -/
def stepsL (leaf : List Nat) (rs : List Bool) (ps : List (List Nat)) : Nat → List (List Nat × List Nat)
  | 0 => [(0 :: leaf, leafL leaf)]
  | i + 1 => stepsL leaf rs ps i ++ [(stepIn (rs.getD i false) (ps.getD i []) (foldS (leafL leaf) (rs.take i) (ps.take i)), foldS (leafL leaf) (rs.take (i + 1)) (ps.take (i + 1)))]
theorem stepsL_length (leaf : List Nat) (rs : List Bool) (ps : List (List Nat)) : ∀ i, (stepsL leaf rs ps i).length = i + 1
  | 0 => rfl
  | i + 1 => by simp [stepsL, stepsL_length leaf rs ps i]
theorem foldS_take (rs : List Bool) (ps : List (List Nat)) (h : List Nat) (i : Nat) (hl : rs.length = ps.length) (hi : i < rs.length) :
    foldS h (rs.take (i + 1)) (ps.take (i + 1)) = stepS (rs.getD i false) (ps.getD i []) (foldS h (rs.take i) (ps.take i)) := by
  rw [List.take_succ_eq_append_getElem hi, List.take_succ_eq_append_getElem (by omega), foldS_snoc _ _ _ _ _ (by simp; omega)]
  simp [List.getD_eq_getElem?_getD, List.getElem?_eq_getElem hi, List.getElem?_eq_getElem (show i < ps.length by omega)]
theorem stepsL_last (leaf : List Nat) (rs : List Bool) (ps : List (List Nat)) : ∀ i, ((stepsL leaf rs ps i).getD i ([], [])).2 = foldS (leafL leaf) (rs.take i) (ps.take i)
  | 0 => by simp [stepsL, foldS]
  | i + 1 => by
    have hl := stepsL_length leaf rs ps i
    simp only [stepsL]
    rw [List.getD_eq_getElem?_getD, List.getElem?_append_right (by omega), hl, Nat.sub_self]
    rfl

/-- A lies in a block of bytes -/
def TB (w : World) (A : Option Addr) : Prop := ∀ ad, A = some ad → ∃ cs fr, w.heap[ad.block]? = some (.cells cs 5 fr)
theorem OB.tb {w : World} {base n cap : Nat} {A : Option Addr} {l : List Nat} (h : OB w base A n cap l) : TB w A := fun ad hA => by
  subst hA
  rcases h.2.2 with ⟨hv, _⟩ | ⟨g, cap', cur, hv, _, hg, _⟩
  · cases hv
  · injection hv with e1
    injection e1 with e1
    subst e1
    exact ⟨cur, _, hg⟩
theorem TB.below {w w' : World} {A : Option Addr} (h : TB w A) (hb : Below w.heap.size w w') : TB w' A := fun ad hA => by
  obtain ⟨cs, fr, h1⟩ := h ad hA
  exact ⟨cs, fr, (hb.block _ (Array.getElem?_eq_some_iff.1 h1).1).trans h1⟩
theorem OW.block {w : World} {base E sz g n cap : Nat} {xs : List Value} (h : OW w base E sz (some ⟨g, 0, none⟩) n cap xs) : ∃ cur fr, w.heap[g]? = some (.cells cur E fr) := by
  rcases h.2 with ⟨hv, _⟩ | ⟨g', cap', cur, hv, hb, hg, _⟩
  · cases hv
  · injection hv with e1
    injection e1 with e1
    injection e1 with e1
    subst e1
    exact ⟨cur, _, hg⟩
theorem tb_grown {w w' : World} {A : Option Addr} {row : Option Nat} (h : TB w A) (hg : w.grownBy w' row) (hrow : ∀ g, row = some g → ∃ cur fr, w.heap[g]? = some (.cells cur 121 fr)) : TB w' A ∧ ∀ c b, RW w A c b → RW w' A c b := by
  have hne : ∀ ad, A = some ad → some ad.block ≠ row := fun ad hA e => by
    obtain ⟨cs, fr, h1⟩ := h ad hA
    obtain ⟨cur, fr2, h2⟩ := hrow ad.block e.symm
    rw [h1] at h2
    injection h2 with h2
    injection h2 with _ h3
    cases h3
  refine ⟨fun ad hA => ?_, fun c b hR => ⟨hR.1, fun ad hA hn => ?_⟩⟩
  · obtain ⟨cs, fr, h1⟩ := h ad hA
    exact ⟨cs, fr, (hg.block _ (Array.getElem?_eq_some_iff.1 h1).1 (hne ad hA)).trans h1⟩
  · obtain ⟨h1, h2, h3⟩ := hR.2 ad hA hn
    refine ⟨h1, Nat.lt_of_lt_of_le h2 hg.size, fun j hj => ?_⟩
    exact (World.cell?_of_block (a := ⟨ad.block, ad.off + j, none⟩) (hg.block _ h2 (hne ad hA))).trans (h3 j hj)
/-! ### the steps in memory -/
def stC (v : Value) (h : List Nat) : List Value := v :: bvals h
/-- the cells cs read as the steps -/
def SC (w : World) (cs : List Value) (st : List (List Nat × List Nat)) : Prop :=
  cs.length = 33 * st.length ∧ ∀ j, j < st.length → ∃ A c, cs[33 * j]? = some (.slice A (st.getD j ([], [])).1.length c) ∧ (∀ k v, (bvals (st.getD j ([], [])).2)[k]? = some v → cs[33 * j + 1 + k]? = some v) ∧
    (st.getD j ([], [])).1.length ≤ c ∧ (st.getD j ([], [])).1.length ≤ 100000 ∧ Bytes (st.getD j ([], [])).1 ∧ (st.getD j ([], [])).2.length = 32 ∧ Bytes (st.getD j ([], [])).2 ∧ RW w A c (st.getD j ([], [])).1 ∧ TB w A
theorem SC.below {w w' : World} {cs : List Value} {st : List (List Nat × List Nat)} (h : SC w cs st) (hb : Below w.heap.size w w') : SC w' cs st :=
  ⟨h.1, fun j hj => by obtain ⟨A, c, h1, h2, h3, h4, h5, h6, h7, h8, h9⟩ := h.2 j hj; exact ⟨A, c, h1, h2, h3, h4, h5, h6, h7, h8.below hb, h9.below hb⟩⟩
theorem SC.grown {w w' : World} {cs : List Value} {st : List (List Nat × List Nat)} {row : Option Nat} (h : SC w cs st) (hg : w.grownBy w' row) (hrow : ∀ g, row = some g → ∃ cur fr, w.heap[g]? = some (.cells cur 121 fr)) : SC w' cs st :=
  ⟨h.1, fun j hj => by obtain ⟨A, c, h1, h2, h3, h4, h5, h6, h7, h8, h9⟩ := h.2 j hj; have k := tb_grown h9 hg hrow; exact ⟨A, c, h1, h2, h3, h4, h5, h6, h7, k.2 _ _ h8, k.1⟩⟩
theorem sc_nil (w : World) : SC w [] [] := ⟨rfl, fun j hj => by simp at hj⟩
theorem SC.snoc {w : World} {cs : List Value} {st : List (List Nat × List Nat)} (h : SC w cs st) {A : Option Addr} {n c : Nat} {b d : List Nat} (hn : b.length = n) (h1 : n ≤ c) (h2 : n ≤ 100000) (hB : Bytes b) (hd : d.length = 32) (hDB : Bytes d) (hR : RW w A c b) (hT : TB w A) :
    SC w (cs ++ stC (.slice A n c) d) (st ++ [(b, d)]) := by
  subst hn
  refine ⟨by simp [stC, h.1, bvals_length, hd]; omega, fun j hj => ?_⟩
  rcases Nat.lt_or_ge j st.length with hlt | hge
  · obtain ⟨A, c, h1, h2, h3, h4, h5, h6, h7, h8, h9⟩ := h.2 j hlt
    have e : (st ++ [(b, d)]).getD j ([], []) = st.getD j ([], []) := by simp [List.getD_eq_getElem?_getD, List.getElem?_append_left hlt]
    rw [e]
    refine ⟨A, c, by rw [List.getElem?_append_left (by rw [h.1]; omega)]; exact h1, fun k v hk => ?_, h3, h4, h5, h6, h7, h8, h9⟩
    have hk32 : k < 32 := by have := (List.getElem?_eq_some_iff.1 hk).1; rw [bvals_length, h6] at this; exact this
    rw [List.getElem?_append_left (by rw [h.1]; omega)]
    exact h2 k v hk
  · obtain rfl : j = st.length := by rw [List.length_append] at hj; simp at hj; omega
    have e : (st ++ [(b, d)]).getD st.length ([], []) = (b, d) := by simp [List.getD_eq_getElem?_getD]
    rw [e]
    refine ⟨A, c, ?_, fun k v hk => ?_, h1, h2, hB, hd, hDB, hR, hT⟩
    · rw [List.getElem?_append_right (by rw [h.1]; omega), h.1]; simp [stC]
    · rw [List.getElem?_append_right (by rw [h.1]; omega), h.1, show 33 * st.length + 1 + k - 33 * st.length = k + 1 by omega]
      simpa [stC] using hk
theorem stC_one (A : Option Addr) (n c : Nat) (d : List Nat) : ∀ u ∈ stC (.slice A n c) d, u.oneCell' = true := fun u hu => by
  rcases List.mem_cons.1 hu with rfl | hu
  · rfl
  · exact bvals_one d u hu
theorem stC_arr (v : Value) (d : List Nat) : (stC v d).toArray.toList = stC v d := by simp
theorem stC_size (v : Value) (d : List Nat) (hd : d.length = 32) : (stC v d).toArray.size = 33 := by simp [stC, bvals_length, hd]
def z121 : Value := .agg ((Value.slice none 0 0 :: bvals (zer 32)).toArray)
theorem info121 : (Tryd.prog.info? 121).map (fun i => (i.zero, i.size, i.bytes)) = some (some z121, 33, 56) := by kernel_rfl
def bd121 (ps : Array (Nat × Value)) : Sem Value := Instr.build 121 ps
theorem bd121_rule (ps : Array (Nat × Value)) : Instr.build 121 ps = bd121 ps := rfl
theorem fs121 : ∃ fs, Tryd.prog.underlying 121 = some (.struct fs) ∧ (fs.toList.mapM fun f => (Tryd.prog.info? f.type).map fun i => (f.offset, i.size)) = some [(0, 1), (1, 32)] := ⟨_, Tryd.underlying121, by kernel_rfl⟩
theorem bd121_run (A : Option Addr) (n c : Nat) (d : List Nat) (hd : d.length = 32) (w : World) : (bd121 #[(0, .slice A n c), (1, .agg (u8s d))]).run Tryd.prog w = .ok (.agg (stC (.slice A n c) d).toArray) w := by
  obtain ⟨fs, hu, hpl⟩ := fs121
  have hz : (Tryd.prog.info? 121).map (·.zero) = some (some z121) := by
    have := info121
    cases hq : Tryd.prog.info? 121 with
    | none => rw [hq] at this; cases this
    | some i => rw [hq] at this; simp at this; simp [this.1]
  have h := run_build_all (P := Tryd.prog) w 121 fs [.slice A n c, .agg (u8s d)] z121 _ hu hz hpl (fun j v hj => by
    have hj2 : j < 2 := (List.getElem?_eq_some_iff.1 hj).1
    have : j = 0 ∨ j = 1 := by omega
    rcases this with rfl | rfl
    · simp at hj; subst hj; rfl
    · simp at hj; subst hj
      simp [Value.cells, u8s_size, hd]) (by simp [Value.cells, u8s_size, hd, z121, bvals_length, zer_length])
  have e : ([Value.slice A n c, .agg (u8s d)].flatMap (·.cells.toList)) = stC (.slice A n c) d := by simp [Value.cells, stC, u8s_bvals]
  rw [e] at h
  exact h
def bs118 (ps : Array (Nat × Value)) : Sem Value := Instr.buildSlice 118 1 ps
theorem bs118_rule (ps : Array (Nat × Value)) : Instr.buildSlice 118 1 ps = bs118 ps := rfl
theorem bs118_run (v : Value) (d : List Nat) (hd : d.length = 32) (w : World) : (bs118 #[(0, .agg (stC v d).toArray)]).run Tryd.prog w = .ok (.slice (some ⟨w.heap.size, 0, none⟩) 1 1) (w.alloc (.cells (stC v d).toArray 121)) :=
  run_buildSlice_one w 118 121 z121 33 56 Tryd.underlying118 info121 (by simp [z121, Value.cells, bvals_length, zer_length]) (by omega) (by omega) _ (stC_size v d hd)
/-- the hash of step j -/
theorem sc_hash {w w0 : World} {base n cap j g : Nat} {cs : List Value} {st : List (List Nat × List Nat)} (h : OW w base 121 33 (some ⟨g, 0, none⟩) n cap cs) (k : SC w0 cs st) (hj : j < st.length) :
    (loadAgg 25 (.pointer (some ⟨g, j * 33 + 1, none⟩))).run Tryd.prog w = .ok (.agg (u8s (st.getD j ([], [])).2)) w := by
  obtain ⟨A, c, h1, h2, h3, h4, h5, h6, h7, h8, h9⟩ := k.2 j hj
  have hne : cs ≠ [] := fun e => by have := k.1; rw [e] at this; simp at this; omega
  have := loadAgg_run (P := Tryd.prog) (w := w) (ty := 25) (g := g) (off := j * 33 + 1) (u8s (st.getD j ([], [])).2).toList Tryd.underlying25 rfl (by rw [Array.length_toList]; exact size25 _ h6) (fun i v hv => by
    rw [u8s_bvals] at hv
    have := (h.lv.2 _ rfl hne).2.2 _ v (h2 i v hv)
    simp only [Nat.zero_add] at this
    rw [show j * 33 + 1 + i = 33 * j + 1 + i by omega]
    exact this)
  simpa using this
theorem sc_input {w w0 : World} {base n cap j g : Nat} {cs : List Value} {st : List (List Nat × List Nat)} (h : OW w base 121 33 (some ⟨g, 0, none⟩) n cap cs) (k : SC w0 cs st) (hj : j < st.length) :
    ∃ A c, w.cell? ⟨g, j * 33, none⟩ = some (.slice A (st.getD j ([], [])).1.length c) ∧ (st.getD j ([], [])).1.length ≤ c ∧ (st.getD j ([], [])).1.length ≤ 100000 ∧ Bytes (st.getD j ([], [])).1 ∧ RW w0 A c (st.getD j ([], [])).1 := by
  obtain ⟨A, c, h1, h2, h3, h4, h5, h6, h7, h8, h9⟩ := k.2 j hj
  have hne : cs ≠ [] := fun e => by have := k.1; rw [e] at this; simp at this; omega
  refine ⟨A, c, ?_, h3, h4, h5, h8⟩
  have := (h.lv.2 _ rfl hne).2.2 _ _ h1
  simp only [Nat.zero_add] at this
  rw [Nat.mul_comm]
  exact this
/-! ### path -/
attribute [local go_sem ↓] ld25 st25 bd121_rule bs118_rule
set_option maxRecDepth 100000 in
set_option maxHeartbeats 4000000 in
theorem path_any (w : World) (hT : Tabs w) (leaf : List Nat) (A : Option Addr) (n cap : Nat) (hn : leaf.length = n) (hcap : n ≤ cap) (hlen : n ≤ 2000) (hB : Bytes leaf) (hr : RW w A cap leaf)
    (rs : List Bool) (R : Option Addr) (k rc : Nat) (hk : rs.length = k) (hk2 : k ≤ 65536) (hRs : LV w R (rs.map Value.bool)) (ps : List (List Nat)) (P : Option Addr) (pc : Nat) (hp : ps.length = k) (hd : Digs ps) (hPs : LV w P (hcell ps)) :
    Calls Tryd.prog 80 #[.slice A n cap, .slice R k rc, .slice P k pc] w fun e w' => ∃ A' c' cs, e = .returned (.slice A' (k + 1) c') ∧ OW w' w.heap.size 121 33 A' (k + 1) c' cs ∧ SC w' cs (stepsL leaf rs ps k) ∧ Below w.heap.size w w' := by
  have H0 := Lib.hid (And.intro hk (And.intro hRs (And.intro hp (And.intro hd hPs))))
  have HL := Lib.hid (leafin_any w leaf A n cap hn hcap (by omega) hr)
  have hl0 : (0 :: leaf).length = n + 1 := by simp [hn]
  have HS := Lib.hid (fun W (hT : Tabs W) Z cz (hz : n + 1 ≤ cz) (hr : RW W Z cz (0 :: leaf)) => sum_any W hT (0 :: leaf) Z cz (by rw [hl0]; exact hz) (bytes_cons (by omega) hB) (hr.rb (Nat.le_refl _)) (by rw [hl0]; omega))
  rw [hl0, show sha (0 :: leaf) = leafL leaf from rfl] at HS
  have HB := Lib.hid (And.intro hT (And.intro (bytes_cons (show 0 < 256 by omega) hB) hl0))
  have hd0 := leafL_length leaf
  clear hk hRs hp hd hPs hn hr hT hl0 hB
  go_enter Tryd.func80, Tryd.ntmps80
  go_wp2_with fail
  refine HL.out.mono ?_
  rintro e w1 ⟨A1, c1, rfl, O1, B1⟩
  have H1 := Lib.hid (And.intro O1 (At.mk HB.out.1 B1))
  clear O1 B1 HL
  go_wp2_with fail
  refine (HS.out _ H1.out.2.t A1 c1 H1.out.1.cap_le H1.out.1.rw).mono ?_
  rintro e w2 ⟨rfl, B2⟩
  have H2 := Lib.hid (And.intro (H1.out.1.below B2) (H1.out.2.step B2))
  clear B2 H1 HS
  have b1 := fun W => bd121_run A1 (n + 1) c1 (leafL leaf) hd0 W
  have b2 := fun W => bs118_run (.slice A1 (n + 1) c1) (leafL leaf) hd0 W
  go_wp2_with fail
  clear b1 b2
  have O2 : OW (w2.alloc (.cells (stC (.slice A1 (n + 1) c1) (leafL leaf)).toArray 121)) w.heap.size 121 33 (some ⟨w2.heap.size, 0, none⟩) 1 1 (stC (.slice A1 (n + 1) c1) (leafL leaf)) := by
    have := ow_new w2 121 33 (stC (.slice A1 (n + 1) c1) (leafL leaf)).toArray 1 H2.out.2.le (by decide) (by rw [stC_size _ _ hd0])
    rwa [stC_arr] at this
  have S2 : SC (w2.alloc (.cells (stC (.slice A1 (n + 1) c1) (leafL leaf)).toArray 121)) (stC (.slice A1 (n + 1) c1) (leafL leaf)) (stepsL leaf rs ps 0) :=
    (sc_nil _).snoc HB.out.2.2 H2.out.1.cap_le (by omega) HB.out.2.1 hd0 (sha_bytes _) (H2.out.1.alloc _).rw (H2.out.1.alloc _).tb
  have H3 := Lib.hid (And.intro O2 (And.intro S2 (H2.out.2.step ((Below.refl _ _).alloc (Nat.le_refl _) (.cells (stC (.slice A1 (n + 1) c1) (leafL leaf)).toArray 121)))))
  clear O2 S2 H2
  have hg2 : w.heap.size ≤ w2.heap.size := H3.out.1.some_ (by omega) |>.elim (fun g h => by obtain ⟨h1, h2, h3⟩ := h; injection h1 with h1; injection h1 with h1; omega)
  generalize w2.alloc (.cells (stC (.slice A1 (n + 1) c1) (leafL leaf)).toArray 121) = w3 at *
  generalize stC (.slice A1 (n + 1) c1) (leafL leaf) = cs0 at *
  generalize w2.heap.size = g2 at *
  go_loopg [8, 21] k (fun f ov iv wr => ∃ (i : Nat) (A' : Option Addr) (c' : Nat) (cs : List Value), i + f = k ∧ ov = .slice A' (i + 1) c' ∧ iv = .int .i64 i ∧ OW wr w.heap.size 121 33 A' (i + 1) c' cs ∧ SC wr cs (stepsL leaf rs ps i) ∧ At w wr)
  case atStart => exact ⟨0, _, 1, cs0, by omega, rfl, rfl, H3.out.1, H3.out.2.1, H3.out.2.2⟩
  case round =>
    clear H3
    obtain ⟨i, A', c', cs, hif, rfl, rfl, O, S, S0⟩ := hrel
    by_cases hi : i < k
    · obtain ⟨g, rfl, hbg, hg⟩ := O.some_ (by omega)
      have hlen := stepsL_length leaf rs ps i
      have hlast := stepsL_last leaf rs ps i
      have lh := sc_hash O S (j := i) (by omega)
      rw [hlast] at lh
      have hft := foldS_take rs ps (leafL leaf) i (by rw [H0.out.1, H0.out.2.2.1]) (by rw [H0.out.1]; exact hi)
      have hfo := foldS_ok (rs.take i) (ps.take i) (leafL leaf) hd0 (sha_bytes _)
      have hst : stepsL leaf rs ps (i + 1) = stepsL leaf rs ps i ++ [(stepIn (rs.getD i false) (ps.getD i []) (foldS (leafL leaf) (rs.take i) (ps.take i)), foldS (leafL leaf) (rs.take (i + 1)) (ps.take (i + 1)))] := rfl
      rw [hft] at hst
      have hdk := digs_at H0.out.2.2.2.1 (k := i) (by rw [H0.out.2.2.1]; exact hi)
      have hne := hcell_ne H0.out.2.2.2.1 (by rw [H0.out.2.2.1]; omega)
      have hne2 : rs.map Value.bool ≠ [] := fun e => by have := H0.out.1; have h2 := congrArg List.length e; simp at h2; rw [h2] at this; simp at this; omega
      cases P with
      | none => exact absurd (H0.out.2.2.2.2.1 rfl) hne
      | some pd =>
      cases R with
      | none => exact absurd (H0.out.2.1.1 rfl) hne2
      | some rd =>
      obtain ⟨pg, po, rfl, hpg⟩ := lv_spot H0.out.2.2.2.2 hne
      obtain ⟨rg, ro, rfl, hrg⟩ := lv_spot H0.out.2.1 hne2
      have hlp := fun W (s : At w W) => lv_dig (H0.out.2.2.2.2.below s.b) H0.out.2.2.2.1 i (by rw [H0.out.2.2.1]; exact hi) Tryd.underlying25 dsize25
      have cr := ((H0.out.2.1.below S0.b).2 _ rfl hne2).2.2 i (.bool (rs.getD i false)) (by simp [List.getD_eq_getElem?_getD, List.getElem?_eq_getElem (show i < rs.length by rw [H0.out.1]; exact hi)])
      have HE := Lib.hid (And.intro hif (And.intro O (And.intro S (And.intro S0 (And.intro hst hlp)))))
      clear hif O S S0 hst hlp hne hne2 hft hlast
      generalize foldS (leafL leaf) (rs.take i) (ps.take i) = h at *
      generalize ps.getD i [] = p at *
      generalize rs.getD i false = r at *
      cases r
      · go_wp2_with (refine wpList_fillM rfl 25 (.tmp 11) (.tmp 30) rfl (u8s h) rfl rfl (size25 _ hfo.1) (by rw [u8s_size, hfo.1]; rfl) (u8s_one _) ?_; intro w5 E5 B5; have H5 := Lib.hid (And.intro E5 (And.intro (HE.out.2.1.below' B5) (And.intro (HE.out.2.2.1.below B5) (HE.out.2.2.2.1.step B5)))); clear E5 B5)
        have l5 := load25_run H5.out.1.drew hfo.1
        have lp := HE.out.2.2.2.2.2 _ H5.out.2.2.2.drew
        clear cr lh
        refine wp_region_sego [0, 0, 0, 0, 0, 1, 2] [true] (by kernel_rfl) (by kernel_rfl) (fun _ _ d _ _ h => by cases d <;> exact h) (sego_last fun K0 hK0 => ?_)
        simp only [pickC, ↓reduceIte, Nat.reduceEqDiff, Nat.reduceAdd]
        go_wp2_with fail
        refine hK0.out _ (sego_do fun K2 hK2 => ?_)
        clear hK0 K0
        simp only [pickC, ↓reduceIte, Nat.reduceEqDiff, Nat.reduceAdd]
        go_wp2_with fail
        refine (nodein_any _ h p hfo.1 hdk.1).mono ?_
        rintro e w6 ⟨A6, c6, rfl, O6, B6⟩
        have H6 := Lib.hid (And.intro O6 (And.intro (H5.out.2.1.drew'.below' B6) (And.intro ((H5.out.2.2.1.below (Below.refl _ _).drew).below B6) (H5.out.2.2.2.drew.step B6))))
        clear O6 B6
        go_wp2_with fail
        refine hK2.out _ _ (sego_end fun K0 hK0 => ?_)
        clear hK2 K2
        simp only [pickC, ↓reduceIte, Nat.reduceEqDiff, Nat.reduceAdd]
        go_wp2_with fail
        refine hK0.out _ ?_
        clear hK0 K0
        go_wp2_with fail
        have hsi := stepIn_sha false p h
        have hso := stepS_ok false p h
        have hil := stepIn_length false p h hdk.1 hfo.1
        have hib := stepIn_bytes false p h hdk.2 hfo.2
        have HS := Lib.hid (fun W (hT : Tabs W) Z cz (hz : 65 ≤ cz) (hr : RW W Z cz (stepIn false p h)) => sum_any W hT (stepIn false p h) Z cz (by rw [hil]; exact hz) hib (hr.rb (Nat.le_refl _)) (by rw [hil]; omega))
        rw [hil, hsi] at HS
        refine (HS.out _ H6.out.2.2.2.t A6 c6 H6.out.1.cap_le H6.out.1.rw).mono ?_
        rintro e w7 ⟨rfl, B7⟩
        have H7 := Lib.hid (And.intro (H6.out.1.below B7) (And.intro (H6.out.2.1.below' B7) (And.intro (H6.out.2.2.1.below B7) (H6.out.2.2.2.step B7))))
        clear B7 HS H6
        have b1 := fun W => bd121_run A6 65 c6 (stepS false p h) hso.1 W
        have b2 := fun W => bs118_run (.slice A6 65 c6) (stepS false p h) hso.1 W
        go_wp2_with (at_builtin; refine wpList_appWG 118 121 z121 33 56 Tryd.underlying118 info121 (by simp [z121, Value.cells, bvals_length, zer_length]) (by decide) rfl (.tmp 44) (.tmp 49) rfl w.heap.size (some ⟨g, 0, none⟩) (i + 1) c' cs rfl (H7.out.2.1.alloc _) (some ⟨w7.heap.size, 0, none⟩) 1 1 (stC (.slice A6 65 c6) (stepS false p h)) rfl (by simp [stC, bvals_length, hso.1]) (by intro e; cases e) (by have := lv_blk (Blk.new w7 121 (stC (.slice A6 65 c6) (stepS false p h)).toArray); rwa [stC_arr] at this) (stC_one _ _ _ _) (by omega) (by omega) (by have := H7.out.2.2.2.le; simp; omega) ?_; intro A8 c8 w8 O8 B8 G8; have H8 := Lib.hid (And.intro O8 (And.intro B8 G8)); clear O8 B8 G8)
        go_roundg (gk - 1)
        case measure => have := HE.out.1; omega
        case rel =>
          have hst := HE.out.2.2.2.2.1
          have hif := HE.out.1
          obtain ⟨O7, C7, S7, T7⟩ := H7.out
          obtain ⟨O8, B8, G8⟩ := H8.out
          have hsz : w.heap.size ≤ (w7.alloc (.cells (stC (.slice A6 65 c6) (stepS false p h)).toArray 121)).heap.size := by have := T7.le; simp; omega
          have hrow : ∀ g', (Value.slice (some ⟨g, 0, none⟩) (i + 1) c').ownBlock = some g' → ∃ cur fr, (w7.alloc (.cells (stC (.slice A6 65 c6) (stepS false p h)).toArray 121)).heap[g']? = some (.cells cur 121 fr) := fun g' e => by
            injection e with e
            subst e
            exact OW.block (C7.alloc _)
          have SS := (S7.below ((Below.refl _ _).alloc (Nat.le_refl _) (.cells (stC (.slice A6 65 c6) (stepS false p h)).toArray 121))).snoc hil O7.cap_le (by omega) hib hso.1 hso.2 (O7.alloc _).rw (O7.alloc _).tb
          rw [← hst] at SS
          exact ⟨i + 1, A8, c8, _, by omega, rfl, by go_num, O8, SS.grown G8 hrow, ⟨T7.t0, ((T7.b).alloc T7.le _).trans B8⟩⟩
      · go_wp2_with (refine wpList_fillM rfl 25 (.tmp 11) (.tmp 30) rfl (u8s h) rfl rfl (size25 _ hfo.1) (by rw [u8s_size, hfo.1]; rfl) (u8s_one _) ?_; intro w5 E5 B5; have H5 := Lib.hid (And.intro E5 (And.intro (HE.out.2.1.below' B5) (And.intro (HE.out.2.2.1.below B5) (HE.out.2.2.2.1.step B5)))); clear E5 B5)
        have l5 := load25_run H5.out.1.drew hfo.1
        have lp := HE.out.2.2.2.2.2 _ H5.out.2.2.2.drew
        clear cr lh
        refine wp_region_sego [0, 0, 0, 0, 0, 1, 2] [true] (by kernel_rfl) (by kernel_rfl) (fun _ _ d _ _ h => by cases d <;> exact h) (sego_last fun K0 hK0 => ?_)
        simp only [pickC, ↓reduceIte, Nat.reduceEqDiff, Nat.reduceAdd]
        go_wp2_with fail
        refine hK0.out _ (sego_do fun K2 hK2 => ?_)
        clear hK0 K0
        simp only [pickC, ↓reduceIte, Nat.reduceEqDiff, Nat.reduceAdd]
        go_wp2_with fail
        refine (nodein_any _ p h hdk.1 hfo.1).mono ?_
        rintro e w6 ⟨A6, c6, rfl, O6, B6⟩
        have H6 := Lib.hid (And.intro O6 (And.intro (H5.out.2.1.drew'.below' B6) (And.intro ((H5.out.2.2.1.below (Below.refl _ _).drew).below B6) (H5.out.2.2.2.drew.step B6))))
        clear O6 B6
        go_wp2_with fail
        refine hK2.out _ _ (sego_end fun K0 hK0 => ?_)
        clear hK2 K2
        simp only [pickC, ↓reduceIte, Nat.reduceEqDiff, Nat.reduceAdd]
        go_wp2_with fail
        refine hK0.out _ ?_
        clear hK0 K0
        go_wp2_with fail
        have hsi := stepIn_sha true p h
        have hso := stepS_ok true p h
        have hil := stepIn_length true p h hdk.1 hfo.1
        have hib := stepIn_bytes true p h hdk.2 hfo.2
        have HS := Lib.hid (fun W (hT : Tabs W) Z cz (hz : 65 ≤ cz) (hr : RW W Z cz (stepIn true p h)) => sum_any W hT (stepIn true p h) Z cz (by rw [hil]; exact hz) hib (hr.rb (Nat.le_refl _)) (by rw [hil]; omega))
        rw [hil, hsi] at HS
        refine (HS.out _ H6.out.2.2.2.t A6 c6 H6.out.1.cap_le H6.out.1.rw).mono ?_
        rintro e w7 ⟨rfl, B7⟩
        have H7 := Lib.hid (And.intro (H6.out.1.below B7) (And.intro (H6.out.2.1.below' B7) (And.intro (H6.out.2.2.1.below B7) (H6.out.2.2.2.step B7))))
        clear B7 HS H6
        have b1 := fun W => bd121_run A6 65 c6 (stepS true p h) hso.1 W
        have b2 := fun W => bs118_run (.slice A6 65 c6) (stepS true p h) hso.1 W
        go_wp2_with (at_builtin; refine wpList_appWG 118 121 z121 33 56 Tryd.underlying118 info121 (by simp [z121, Value.cells, bvals_length, zer_length]) (by decide) rfl (.tmp 44) (.tmp 49) rfl w.heap.size (some ⟨g, 0, none⟩) (i + 1) c' cs rfl (H7.out.2.1.alloc _) (some ⟨w7.heap.size, 0, none⟩) 1 1 (stC (.slice A6 65 c6) (stepS true p h)) rfl (by simp [stC, bvals_length, hso.1]) (by intro e; cases e) (by have := lv_blk (Blk.new w7 121 (stC (.slice A6 65 c6) (stepS true p h)).toArray); rwa [stC_arr] at this) (stC_one _ _ _ _) (by omega) (by omega) (by have := H7.out.2.2.2.le; simp; omega) ?_; intro A8 c8 w8 O8 B8 G8; have H8 := Lib.hid (And.intro O8 (And.intro B8 G8)); clear O8 B8 G8)
        go_roundg (gk - 1)
        case measure => have := HE.out.1; omega
        case rel =>
          have hst := HE.out.2.2.2.2.1
          have hif := HE.out.1
          obtain ⟨O7, C7, S7, T7⟩ := H7.out
          obtain ⟨O8, B8, G8⟩ := H8.out
          have hsz : w.heap.size ≤ (w7.alloc (.cells (stC (.slice A6 65 c6) (stepS true p h)).toArray 121)).heap.size := by have := T7.le; simp; omega
          have hrow : ∀ g', (Value.slice (some ⟨g, 0, none⟩) (i + 1) c').ownBlock = some g' → ∃ cur fr, (w7.alloc (.cells (stC (.slice A6 65 c6) (stepS true p h)).toArray 121)).heap[g']? = some (.cells cur 121 fr) := fun g' e => by
            injection e with e
            subst e
            exact OW.block (C7.alloc _)
          have SS := (S7.below ((Below.refl _ _).alloc (Nat.le_refl _) (.cells (stC (.slice A6 65 c6) (stepS true p h)).toArray 121))).snoc hil O7.cap_le (by omega) hib hso.1 hso.2 (O7.alloc _).rw (O7.alloc _).tb
          rw [← hst] at SS
          exact ⟨i + 1, A8, c8, _, by omega, rfl, by go_num, O8, SS.grown G8 hrow, ⟨T7.t0, ((T7.b).alloc T7.le _).trans B8⟩⟩
    · obtain rfl : i = k := by omega
      have HE := Lib.hid (And.intro O (And.intro S S0))
      clear O S S0 hi
      go_wp2_with fail
      go_ret
      exact ⟨A', c', cs, rfl, HE.out.1, HE.out.2.1, HE.out.2.2.b⟩
end Go.Proofs.YtediocpdpghbfaaDoor
