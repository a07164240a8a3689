/- Write -/
import Derived.Test.YtediocpdpghbfaaDoorHash
import Derived.Deep.RegionWith
set_option linter.unusedSimpArgs false
set_option linter.unusedVariables false
namespace Go.Proofs.YtediocpdpghbfaaDoor
open Go Go.RowKit

/-- the slice at address A holds the bytes b, in memory that lies there already, and not in block g -/
def RB (w : World) (g : Nat) (A : Option Addr) (b : List Nat) : Prop :=
  b.length ≠ 0 → ∃ gb off, A = some ⟨gb, off, none⟩ ∧ gb ≠ g ∧ gb < w.heap.size ∧ ∀ j, j < b.length → w.cell? ⟨gb, off + j, none⟩ = some (.int .u8 (b.getD j 0 : Nat))
theorem RB.grown {w w' : World} {g : Nat} {A : Option Addr} {b : List Nat} (h : RB w g A b) (hb : w.grownBy w' (some g)) : RB w' g A b := by
  intro hn
  obtain ⟨gb, off, hA, hne, hlt, hc⟩ := h hn
  exact ⟨gb, off, hA, hne, Nat.lt_of_lt_of_le hlt hb.size, fun j hj => (World.cell?_of_block (hb.block gb hlt (by simpa using hne))).trans (hc j hj)⟩
theorem RB.below {w w' : World} {g : Nat} {A : Option Addr} {b : List Nat} (h : RB w g A b) (hb : Below w.heap.size w w') : RB w' g A b := by
  intro hn
  obtain ⟨gb, off, hA, hne, hlt, hc⟩ := h hn
  exact ⟨gb, off, hA, hne, Nat.lt_of_lt_of_le hlt hb.size, fun j hj => (hb.cell (p := ⟨gb, off + j, none⟩) hlt).trans (hc j hj)⟩

/-- the same bytes, the excluded block another: one that was no block of the first world -/
theorem RB.move {w w' : World} {g g' : Nat} {A : Option Addr} {b : List Nat} (h : RB w g A b) (hb : Below w.heap.size w w') (hg : w.heap.size ≤ g') : RB w' g' A b := by
  intro hn
  obtain ⟨gb, off, hA, hne, hlt, hc⟩ := h hn
  exact ⟨gb, off, hA, by omega, Nat.lt_of_lt_of_le hlt hb.size, fun j hj => (hb.cell (p := ⟨gb, off + j, none⟩) hlt).trans (hc j hj)⟩
/-- the buffer behind a copy -/
def putBuf (buf : List Nat) (u : Nat) (c : List Nat) : List Nat := buf.take u ++ c ++ buf.drop (u + c.length)
theorem putBuf_length (buf : List Nat) (u : Nat) (c : List Nat) (hb : buf.length = 64) (h : u + c.length ≤ 64) : (putBuf buf u c).length = 64 := by
  simp [putBuf, hb]; omega
theorem putBuf_take (buf : List Nat) (u : Nat) (c : List Nat) (hb : buf.length = 64) (h : u + c.length ≤ 64) : (putBuf buf u c).take (u + c.length) = buf.take u ++ c := by
  have : (buf.take u ++ c).length = u + c.length := by simp [hb]; omega
  rw [putBuf, List.take_append_of_le_length (by omega), List.take_of_length_le (by omega)]
theorem putBuf_bytes (buf : List Nat) (u : Nat) (c : List Nat) (hb : Bytes buf) (hc : Bytes c) : Bytes (putBuf buf u c) := ((hb.take _).append hc).append (hb.drop _)

theorem hash_part (w : World) (g : Nat) (M c buf : List Nat) (hl : (putBuf buf (M.length % 64) c).length = 64) (hbuf : buf.length = 64) (hB : Bytes (putBuf buf (M.length % 64) c))
    (htk : buf.take (M.length % 64) = M.drop (64 * (M.length / 64))) (hlt : M.length % 64 + c.length < 64)
    (hblk : Blk w g 104 (hcells (states HH M (M.length / 64)) (putBuf buf (M.length % 64) c) (M.length + c.length))) : IsHash w g (M ++ c) := by
  have e1 : (M ++ c).length / 64 = M.length / 64 := by rw [List.length_append]; omega
  have e2 : (M ++ c).length % 64 = M.length % 64 + c.length := by rw [List.length_append]; omega
  refine ⟨_, hl, hB, ?_, ?_⟩
  · rw [e2, e1, putBuf_take _ _ _ hbuf (by omega), htk, List.drop_append_of_le_length (by omega)]
  · rw [e1, states_append _ _ _ _ (by omega), List.length_append]; exact hblk
theorem hash_full (w : World) (g : Nat) (M c buf : List Nat) (hl : (putBuf buf (M.length % 64) c).length = 64) (hbuf : buf.length = 64) (hB : Bytes (putBuf buf (M.length % 64) c))
    (htk : buf.take (M.length % 64) = M.drop (64 * (M.length / 64))) (hlt : M.length % 64 + c.length = 64)
    (hblk : Blk w g 104 (hcells (compress KK (states HH M (M.length / 64)) (putBuf buf (M.length % 64) c)) (putBuf buf (M.length % 64) c) (M.length + c.length))) : IsHash w g (M ++ c) := by
  have e1 : (M ++ c).length / 64 = M.length / 64 + 1 := by rw [List.length_append]; omega
  have e2 : (M ++ c).length % 64 = 0 := by rw [List.length_append]; omega
  have hbl : blk (M ++ c) (M.length / 64) = putBuf buf (M.length % 64) c := by
    have h := putBuf_take buf (M.length % 64) c hbuf (by omega)
    rw [hlt, List.take_of_length_le (by omega), htk] at h
    rw [h, blk, List.drop_append_of_le_length (by omega), List.take_of_length_le (by simp; omega)]
  refine ⟨_, hl, hB, ?_, ?_⟩
  · rw [e2, e1, List.take_zero, List.drop_eq_nil_of_le (by rw [List.length_append]; omega)]
  · rw [e1, states, states_append _ _ _ _ (by omega), hbl, List.length_append]; exact hblk

theorem write_nil (v : Value) (w : World) : Calls Tryd.prog 26 #[.pointer none, v] w fun e w' => e = .returned (.int .i64 1) ∧ w = w' := by
  go_enter Tryd.func26, Tryd.ntmps26
  go_wp2
  go_ret
  exact ⟨rfl, rfl⟩

theorem cs_src (wr : World) (gb off : Nat) (rest : List Nat) (n : Nat) (cs : List Value) (hcs : cs = (rest.take n).map (fun x : Nat => Value.int .u8 (x : Int))) (hn : n ≤ rest.length)
    (hcells : ∀ j, j < rest.length → wr.cell? ⟨gb, off + j, none⟩ = some (.int .u8 (rest.getD j 0 : Nat))) : ∀ j v, cs[j]? = some v → wr.cell? ((⟨gb, off, none⟩ : Addr).add j) = some v := by
  intro j v hj
  have hjn : j < n := by
    have := (List.getElem?_eq_some_iff.1 hj).1
    rw [hcs] at this; simp at this; omega
  rw [addr_add, hcells j (by omega), ← hj, hcs]
  simp [hjn, List.getD_eq_getElem?_getD, List.getElem?_eq_getElem (show j < rest.length by omega)]
theorem cs_one (rest : List Nat) (n : Nat) (cs : List Value) (hcs : cs = (rest.take n).map (fun x : Nat => Value.int .u8 (x : Int))) : ∀ v ∈ cs, v.oneCell' = true := by
  intro v hv; rw [hcs] at hv; simp only [List.mem_map] at hv; obtain ⟨x, _, rfl⟩ := hv; rfl
theorem hcells_split (st buf : List Nat) (L : Nat) (hst : st.length = 8) (hbuf : buf.length = 64) (u : Nat) (c : List Nat) (hu : u + c.length ≤ 64) :
    ((hcells st buf L).toList.take (8 + u) ++ ((c.map (fun x : Nat => Value.int .u8 (x : Int))) ++ (hcells st buf L).toList.drop (8 + u + c.length))).toArray = hcells st (putBuf buf u c) L := by
  apply Array.ext'
  simp only [hcells, u32s, u8s, putBuf, Array.toList_append, List.map_append, List.map_take, List.map_drop]
  have h1 : (List.map (fun n : Nat => Value.int .u32 (n : Int)) st).length = 8 := by simp [hst]
  have h2 : (List.map (fun n : Nat => Value.int .u8 (n : Int)) buf).length = 64 := by simp [hbuf]
  have e1 : 8 + u - (List.map (fun n : Nat => Value.int .u32 (n : Int)) st).length = u := by omega
  have e2 : 8 + u + c.length - (List.map (fun n : Nat => Value.int .u32 (n : Int)) st).length = u + c.length := by omega
  rw [List.append_assoc, List.take_append, List.drop_append, e1, e2, List.take_of_length_le (l := List.map (fun n : Nat => Value.int .u32 (n : Int)) st) (by omega),
    show List.drop (8 + u + c.length) (List.map (fun n : Nat => Value.int .u32 (n : Int)) st) = [] from List.drop_eq_nil_of_le (by omega), List.take_append_of_le_length (by omega), List.drop_append_of_le_length (by omega)]
  simp
theorem hcells_setLen (st buf : List Nat) (L L' : Nat) (hst : st.length = 8) (hbuf : buf.length = 64) : (hcells st buf L).setIfInBounds 72 (.int .i64 (L' : Int)) = hcells st buf L' := by
  apply Array.ext'
  simp only [hcells, u32s, u8s, Array.toList_setIfInBounds, Array.toList_append]
  rw [List.set_append_right _ _ (by simp [hst, hbuf])]
  simp [hst, hbuf]
theorem hcells_setState (st st' buf : List Nat) (L : Nat) (hst : st.length = 8) (hst' : st'.length = 8) :
    ((hcells st buf L).toList.take 0 ++ (u32s st').toList ++ (hcells st buf L).toList.drop (0 + (u32s st').size)).toArray = hcells st' buf L := by
  apply Array.ext'
  simp only [hcells, u32s_size, hst', List.take_zero, List.nil_append]
  simp only [u32s, u8s, Array.toList_append]
  rw [List.append_assoc, List.append_assoc, List.drop_append_of_le_length (by simp [hst]), List.drop_eq_nil_of_le (by simp [hst])]
  rfl
/-- the copy into the buffer: behind it the world is a new name -/
theorem wpList_copy_buf {w : World} {ops : Array Oper} {rest : List Oper} {o : Oper} {a : Act} {Q : Exit → Act → World → Prop} (hgd : o.guard = none)
    (ho : o.op = .call { callee := .builtin .copy, args := #[.tmp 21, .tmp 22], argTypes := #[22, 22] })
    (g u gb off k cap' : Nat) (hd : a.eval (.tmp 21) = .slice (some ⟨g, 8 + u, none⟩) (64 - u) (64 - u)) (hs : a.eval (.tmp 22) = .slice (some ⟨gb, off, none⟩) k cap')
    (st buf : List Nat) (L : Nat) (hst : st.length = 8) (hbuf : buf.length = 64) (hB : Blk w g 104 (hcells st buf L)) (c rs : List Nat) (n : Nat) (hc : c = rs.take n) (hrs : rs.length = k) (hn : n = min (64 - u) k) (hu : u < 64)
    (hcells' : ∀ j, j < rs.length → w.cell? ⟨gb, off + j, none⟩ = some (.int .u8 (rs.getD j 0 : Nat)))
    (h : ∀ w2, Blk w2 g 104 (hcells st (putBuf buf u c) L) → w.grownBy w2 (some g) → wpList Tryd.prog ops Q rest (a.put o.dst (.int .i64 (n : Int))) w2) : wpList Tryd.prog ops Q (o :: rest) a w := by
  have hcl : c.length = n := by rw [hc, List.length_take]; omega
  have hcl' : (c.map (fun x : Nat => Value.int .u8 (x : Int))).length = n := by simp [hcl]
  refine wpList_copy_own hgd (.tmp 21) (.tmp 22) 22 22 ho 5 Tryd.underlying22 (by kernel_rfl) g (8 + u) (64 - u) (64 - u) ⟨gb, off, none⟩ k cap' hd hs (hcells st buf L) 104 hB
    (c.map (fun x : Nat => Value.int .u8 (x : Int))) (by rw [hcl', hn]; exact Nat.min_comm _ _) (cs_src w gb off rs n _ (by rw [hc]) (by omega) hcells')
    (by rw [hcells_size _ _ _ hst hbuf, hcl']; omega) (cs_one rs n _ (by rw [hc])) ?_
  rw [hcl', ← hcl, hcells_split st buf L hst hbuf u c (by omega), hcl]
  have := h (w.setRow g (hcells st (putBuf buf u c) L)) (hB.setRow _) (grown_setRow (World.grownBy.refl _ _) _)
  exact this
theorem slice_from (gb off k cap n : Nat) (h : n ≤ k) : ∃ A2 : Option Addr, (k - n ≠ 0 → k ≤ cap → A2 = some ⟨gb, off + n, none⟩) ∧
    ∀ w : World, (Instr.slice 22 (.slice (some ⟨gb, off, none⟩) k cap) (some (.int .i64 (n : Int))) none none).run Tryd.prog w = .ok (.slice A2 (k - n) (cap - n)) w := by
  refine ⟨if cap = n then some ⟨gb, off, none⟩ else some ⟨gb, off + n, none⟩, fun h1 h2 => by rw [if_neg (by omega)], fun w => ?_⟩
  have hs : (Tryd.prog.info? 5).map (·.size) = some 1 := by kernel_rfl
  have he : Tryd.prog.elem 22 = 5 := by kernel_rfl
  rw [run_slice_l w 22 _ k cap (by rw [he]; exact Tryd.underlying22) .i64 n (by omega) (by omega)]
  cases hq : Tryd.prog.info? 5 with
  | none => simp [hq] at hs
  | some i =>
    have hi : i.size = 1 := by simpa [hq] using hs
    simp [he, sizeOf, typeInfo, hq, hi, sliced, addr_add]
theorem Tabs.drew {w : World} (h : Tabs w) : Tabs w.drew := ⟨h.two, h.k, h.h⟩
theorem store_state (w3 w4 : World) (g : Nat) (st bf : List Nat) (L : Nat) (st' : List Nat) (hst : st.length = 8) (hbf : bf.length = 64) (hst' : st'.length = 8) (hE : Blk w3 g 104 (hcells st bf L)) (hb : Below w3.drew.heap.size w3.drew w4) :
    (storeAgg 30 (.pointer (some ⟨g, 0, none⟩)) (.agg (u32s st'))).run Tryd.prog w4 = .ok () (w4.setRow g (hcells st' bf L)) := by
  have hE4 : Blk w4 g 104 (hcells st bf L) := hE.drew.below hb hE.drew.lt
  have := storeAgg_run (P := Tryd.prog) (ty := 30) (off := 0) (cur := (hcells st bf L).toList) (u32s st') (by rw [Array.toArray_toList]; exact hE4) (size30l st' hst') (by rw [u32s_size, hst', Array.length_toList, hcells_size _ _ _ hst hbf]; omega) (u32s_one _)
  rw [this, hcells_setState _ _ _ _ hst hst']
theorem rb_drop (w : World) (g gb off n : Nat) (rest : List Nat) (A2 : Option Addr) (hne : gb ≠ g) (hlt : gb < w.heap.size) (hA : (rest.drop n).length ≠ 0 → A2 = some ⟨gb, off + n, none⟩)
    (hc : ∀ j, j < rest.length → w.cell? ⟨gb, off + j, none⟩ = some (.int .u8 (rest.getD j 0 : Nat))) : RB w g A2 (rest.drop n) := by
  intro h
  refine ⟨gb, off + n, hA h, hne, hlt, fun j hj => ?_⟩
  have := hc (n + j) (by rw [List.length_drop] at hj; omega)
  rw [show off + n + j = off + (n + j) by omega, this]
  simp [List.getD_eq_getElem?_getD]
attribute [local go_sem ↓] ld30 ld37 st30
set_option maxRecDepth 100000 in
theorem write_any (w : World) (hT : Tabs w) (g : Nat) (hg2 : 2 ≤ g) (m xs : List Nat) (hm : IsHash w g m) (A : Option Addr) (cap : Nat) (hcap : xs.length ≤ cap) (hX : Bytes xs) (hr : RB w g A xs)
    (hmax : m.length + xs.length ≤ 1152921504606846976) :
    Calls Tryd.prog 26 #[.pointer (some ⟨g, 0, none⟩), .slice A xs.length cap] w fun e w' => e = .returned (.int .i64 0) ∧ IsHash w' g (m ++ xs) ∧ w.grownBy w' (some g) := by
  have H0 := Lib.hid (And.intro hT (And.intro hm (And.intro hr hX))); clear hT hm hr hX
  have hx1 : xs.length ≤ 1152921504606846976 := by omega
  go_enter Tryd.func26, Tryd.ntmps26
  go_wp2_with fail
  go_loopg [1] xs.length (fun k v wr => ∃ (p rest : List Nat) (A' : Option Addr) (cap' : Nat), xs = p ++ rest ∧ rest.length = k ∧ v = .slice A' k cap' ∧ k ≤ cap' ∧ RB wr g A' rest ∧
    IsHash wr g (m ++ p) ∧ w.grownBy wr (some g) ∧ Tabs wr)
  case atStart =>
    obtain ⟨hT, hm, hr, hX⟩ := H0.out
    exact ⟨[], xs, A, cap, rfl, rfl, rfl, hcap, hr, by simpa using hm, World.grownBy.refl _ _, hT⟩
  case round =>
    obtain ⟨p, rest, A', cap', hxs, hk, rfl, hkc, hr', hm', G, hT'⟩ := hrel
    by_cases h0 : gk = 0
    · subst h0
      obtain rfl : rest = [] := List.eq_nil_of_length_eq_zero hk
      rw [List.append_nil] at hxs
      have HE := Lib.hid (And.intro hxs (And.intro hm' G)); clear hxs hm' G hr' hT' H0
      go_wp2_with fail
      go_ret
      obtain ⟨hxs, hm', G⟩ := HE.out
      rw [hxs]
      exact ⟨rfl, hm', G⟩
    · have hlen : (m ++ p).length + rest.length = m.length + xs.length := by rw [hxs]; simp; omega
      have hRB : Bytes rest := by
        have h := H0.out.2.2.2; rw [hxs] at h
        exact Bytes.of_mem fun x hx => h.mem x (List.mem_append_right _ hx)
      generalize hM : m ++ p = M at *
      obtain ⟨buf, hb1, hb2, hb3, hb4⟩ := hm'
      obtain ⟨gb, off, rfl, hne, hgl, hcel⟩ := hr' (by omega)
      have cl := (hb4.cell 72).trans (hcells_len _ buf _ (states_length rfl _ _) hb1)
      have fl := hb4.frozen 72
      obtain ⟨u, hu⟩ : ∃ u, u = M.length % 64 := ⟨_, rfl⟩
      have hu64 : u < 64 := by omega
      have huI : (M.length : Int) % 64 = (u : Int) := by omega
      obtain ⟨n, hn⟩ : ∃ n, n = min (64 - u) gk := ⟨_, rfl⟩
      have n1 : 1 ≤ n := by omega
      have n2 : n ≤ gk := by omega
      have n3 : u + n ≤ 64 := by omega
      obtain ⟨c, hc⟩ : ∃ c : List Nat, c = rest.take n := ⟨_, rfl⟩
      have hcl : c.length = n := by rw [hc, List.length_take]; omega
      have hL : M.length + gk ≤ 1152921504606846976 := by omega
      have hstl : (states HH M (M.length / 64)).length = 8 := states_length rfl _ _
      have hbl := putBuf_length buf u c hb1 (by omega)
      have hcB : Bytes c := by rw [hc]; exact hRB.take _
      have hbb := putBuf_bytes buf u c hb2 hcB
      have hsw : Words (states HH M (M.length / 64)) := states_words words_HH _ _
      generalize hst : states HH M (M.length / 64) = st at *
      generalize hLL : M.length = L at *
      have HC := Lib.hid (And.intro hb4 (And.intro hc (And.intro hk (And.intro hn (And.intro hcel (And.intro hstl (And.intro hb1 (And.intro hbl (And.intro hbb hsw)))))))))
      have HD := Lib.hid (And.intro hxs (And.intro hb3 (And.intro hu (And.intro hM (And.intro G (And.intro hT' (And.intro hr' (And.intro hst (And.intro hLL (And.intro hcl H0.out))))))))))
      clear hb4 hc hk hn hcel hstl hb1 hbl hbb hsw hxs hb2 hb3 hu hcl hcB hM hRB G hT' hlen H0 hr' hst hLL
      have u64 : (u : Int) ≤ 64 := by omega
      have u0 : 0 ≤ (u : Int) := by omega
      obtain ⟨A2, hA2, hsl⟩ := slice_from gb off gk cap' n n2
      have HA := Lib.hid hA2; clear hA2
      by_cases hful : u + n = 64
      · have hfb : ((u : Int) + n == 64) = true := by rw [beq_iff_eq]; omega
        have HF := Lib.hid hful; clear hful
        go_wp2_with (refine wpList_copy_buf rfl rfl g u gb off gk cap' rfl rfl st buf L HC.out.2.2.2.2.2.1 HC.out.2.2.2.2.2.2.1 HC.out.1 c rest n HC.out.2.1 HC.out.2.2.1 HC.out.2.2.2.1 hu64 HC.out.2.2.2.2.1 ?_; intro w2 E2 G2; have cl2 := (E2.cell 72).trans (hcells_len _ _ _ HC.out.2.2.2.2.2.1 HC.out.2.2.2.2.2.2.2.1); have fl2 := E2.frozen 72; have HE2 := Lib.hid (And.intro E2 G2); clear E2 G2)
        generalize hw3 : w2.setCell ⟨g, 72, none⟩ (.int .i64 ((L : Int) + n)) = w3
        obtain ⟨hb4, hc, hk, hn, hcel, hstl, hb1, hbl, hbb, hsw⟩ := HC.out
        obtain ⟨E2, G2⟩ := HE2.out
        have E3 : Blk w3 g 104 (hcells st (putBuf buf u c) (L + n)) := by
          have h := E2.set_ 72 (.int .i64 ((L + n : Nat) : Int))
          rw [hcells_setLen _ _ _ _ hstl hbl] at h
          rw [← hw3]; exact h
        have G3 : wr.grownBy w3 (some g) := by rw [← hw3]; exact grown_setCell G2 _ _
        have hT3 : Tabs w3 := (HD.out.2.2.2.2.2.1).grown G3 hg2
        have l1 : ∀ k, (loadAgg 30 (.pointer (some ⟨g, 0, none⟩))).run Tryd.prog (w3.drewN k) = .ok (.agg (u32s st)) (w3.drewN k) := fun k => by
          have := loadAgg_run (P := Tryd.prog) (w := w3.drewN k) (ty := 30) (g := g) (off := 0) (u32s st).toList Tryd.underlying30 rfl (by simp only [Array.length_toList, u32s_size, hstl]; kernel_rfl) (fun j v hv => by
            rw [Nat.zero_add, (E3.drewN k).cell, hcells_state _ _ _ hstl j (by have := (List.getElem?_eq_some_iff.1 hv).1; simpa [u32s_size, hstl] using this)]; simpa using hv)
          simpa using this
        have l2 : ∀ k, (loadAgg 37 (.pointer (some ⟨g, 8, none⟩))).run Tryd.prog (w3.drewN k) = .ok (.agg (u8s (putBuf buf u c))) (w3.drewN k) := fun k => by
          have := loadAgg_run (P := Tryd.prog) (w := w3.drewN k) (ty := 37) (g := g) (off := 8) (u8s (putBuf buf u c)).toList Tryd.underlying37 rfl (by simp only [Array.length_toList, u8s_size, hbl]; kernel_rfl) (fun j v hv => by
            rw [(E3.drewN k).cell, hcells_buf _ _ _ hstl hbl j (by have := (List.getElem?_eq_some_iff.1 hv).1; simpa [u8s_size, hbl] using this)]; simpa using hv)
          simpa using this
        have l1' : (loadAgg 30 (.pointer (some ⟨g, 0, none⟩))).run Tryd.prog w3.drew = .ok (.agg (u32s st)) w3.drew := l1 1
        have l2' : (loadAgg 37 (.pointer (some ⟨g, 8, none⟩))).run Tryd.prog w3.drew = .ok (.agg (u8s (putBuf buf u c))) w3.drew := l2 1
        clear l1 l2
        generalize hbf : putBuf buf u c = bf at *
        have HBF := Lib.hid hbf; clear hbf
        have H3 := Lib.hid (And.intro E3 (And.intro G3 hT3)); clear E3 G3 hT3 hw3 hb4 hc hk hn hcel E2 G2 HE2
        go_region_with (go_at_call 23; refine (compress_any st bf HC.out.2.2.2.2.2.1 HC.out.2.2.2.2.2.2.2.2.2 HC.out.2.2.2.2.2.2.2.1 HC.out.2.2.2.2.2.2.2.2.1 w3.drew (H3.out.2.2.drew)).mono ?_; rintro e w4 ⟨rfl, B4⟩; have hst4 := store_state w3 w4 g st bf (L + n) (compress KK st bf) HC.out.2.2.2.2.2.1 HC.out.2.2.2.2.2.2.2.1 (compress_length _ _ _) H3.out.1 B4; have HB4 := Lib.hid B4; clear B4)
        all_goals
          go_wp2_with fail
          go_roundg (gk - n)
          case measure => omega
          case rel =>
            obtain ⟨hb4, hc, hk, hn, hcel, hstl, hb1, hbl, hbb, hsw⟩ := HC.out
            obtain ⟨hxs, hb3, hu, hM, G, hT', hr', hst, hLL, hcl, hT, hm, hr, hX⟩ := HD.out
            obtain ⟨E3, G3, hT3⟩ := H3.out
            have hful := HF.out
            have hbf := HBF.out
            subst hst hLL hu hbf
            have E4 : Blk w4 g 104 (hcells (states HH M (M.length / 64)) (putBuf buf (M.length % 64) c) (M.length + n)) := E3.drew.below HB4.out E3.drew.lt
            have G5 : w.grownBy (w4.setRow g (hcells (compress KK (states HH M (M.length / 64)) (putBuf buf (M.length % 64) c)) (putBuf buf (M.length % 64) c) (M.length + n))) (some g) :=
              grown_setRow (grown_below (grown_drewN (grown_trans G G3) 1) HB4.out (Nat.le_trans G.size G3.size)) _
            have E5 := E4.setRow (hcells (compress KK (states HH M (M.length / 64)) (putBuf buf (M.length % 64) c)) (putBuf buf (M.length % 64) c) (M.length + n))
            have h6 := hash_full (w4.setRow g (hcells (compress KK (states HH M (M.length / 64)) (putBuf buf (M.length % 64) c)) (putBuf buf (M.length % 64) c) (M.length + n))) g M c buf hbl hb1 hbb hb3 (by omega) (by rw [hcl]; exact E5)
            refine ⟨p ++ c, rest.drop n, A2, cap' - n, ?_, by rw [List.length_drop, hk], rfl, by omega, ?_, ?_, G5, hT.grown G5 hg2⟩
            · rw [List.append_assoc, hc, List.take_append_drop]; exact hxs
            · have hgl4 : gb < w4.heap.size := Nat.lt_of_lt_of_le (Nat.lt_of_lt_of_le hgl G3.size) HB4.out.size
              refine rb_drop _ g gb off n rest A2 hne (by simpa using hgl4) (fun h => HA.out (by rw [List.length_drop] at h; omega) hkc) (fun j hj => ?_)
              rw [World.cell?_of_block (w := w4) (setRow_other w4 g gb _ hne), HB4.out.cell (p := ⟨gb, off + j, none⟩) (Nat.lt_of_lt_of_le hgl G3.size)]
              exact (World.cell?_of_block (w := wr) (G3.block gb hgl (by simpa using hne))).trans (hcel j hj)
            · rw [← List.append_assoc, hM]; exact h6
      · have hfb : ((u : Int) + n == 64) = false := by rw [beq_eq_false_iff_ne]; omega
        have HF := Lib.hid hful; clear hful
        go_wp2_with (refine wpList_copy_buf rfl rfl g u gb off gk cap' rfl rfl st buf L HC.out.2.2.2.2.2.1 HC.out.2.2.2.2.2.2.1 HC.out.1 c rest n HC.out.2.1 HC.out.2.2.1 HC.out.2.2.2.1 hu64 HC.out.2.2.2.2.1 ?_; intro w2 E2 G2; have cl2 := (E2.cell 72).trans (hcells_len _ _ _ HC.out.2.2.2.2.2.1 HC.out.2.2.2.2.2.2.2.1); have fl2 := E2.frozen 72; have HE2 := Lib.hid (And.intro E2 G2); clear E2 G2)
        go_roundg (gk - n)
        case measure => omega
        case rel =>
          obtain ⟨hb4, hc, hk, hn, hcel, hstl, hb1, hbl, hbb, hsw⟩ := HC.out
          obtain ⟨hxs, hb3, hu, hM, G, hT', hr', hst, hLL, hcl, hT, hm, hr, hX⟩ := HD.out
          obtain ⟨E2, G2⟩ := HE2.out
          have hful := HF.out
          subst hst hLL hu
          have G3 : w.grownBy (w2.setCell ⟨g, 72, none⟩ (.int .i64 ((M.length : Int) + n))) (some g) := grown_setCell (grown_trans G G2) _ _
          have E3 : Blk (w2.setCell ⟨g, 72, none⟩ (.int .i64 ((M.length : Int) + n))) g 104 (hcells (states HH M (M.length / 64)) (putBuf buf (M.length % 64) c) (M.length + c.length)) := by
            have h := E2.set_ 72 (.int .i64 ((M.length + c.length : Nat) : Int))
            rw [hcells_setLen _ _ _ _ hstl hbl] at h
            rw [← hcl]
            exact h
          have h6 := hash_part _ g M c buf hbl hb1 hbb hb3 (by omega) E3
          have hT3 := hT.grown G3 hg2
          refine ⟨p ++ c, rest.drop n, A2, cap' - n, ?_, by rw [List.length_drop, hk], rfl, by omega, ?_, ?_, G3, hT3⟩
          · rw [List.append_assoc, hc, List.take_append_drop]; exact hxs
          · exact rb_drop _ g gb off n rest A2 hne (Nat.lt_of_lt_of_le hgl (by simpa [World.setCell] using G2.size)) (fun h => HA.out (by rw [List.length_drop] at h; omega) hkc)
              (fun j hj => (World.cell?_of_block ((grown_setCell G2 72 _).block gb hgl (by simpa using hne))).trans (hcel j hj))
          · rw [← List.append_assoc, hM]; exact h6
end Go.Proofs.YtediocpdpghbfaaDoor
