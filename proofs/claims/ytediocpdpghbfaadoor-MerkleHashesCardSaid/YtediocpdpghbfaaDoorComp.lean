/- Compress -/
import Derived.Test.YtediocpdpghbfaaDoorRound
set_option linter.unusedSimpArgs false
set_option linter.unusedVariables false
namespace Go.Proofs.YtediocpdpghbfaaDoor
open Go Go.RowKit

theorem size28 : (Tryd.prog.info? 28).map (·.size) = some 1 := by kernel_rfl
theorem run_index_word (l : List Nat) (hl : l.length = 64) (i : Nat) (hi : i < 64) (w : World) :
    (Instr.index 29 (.agg (u32s l)) (.int .i64 (i : Int))).run Tryd.prog w = .ok (.int .u32 (l.getD i 0 : Nat)) w := by
  have h1 := u32s_at l i (by omega)
  have hs := size28
  cases hq : Tryd.prog.info? 28 with
  | none => simp [hq] at hs
  | some j =>
    have hj : j.size = 1 := by simpa [hq] using hs
    have hii : (i : Int) < (64 : Nat) := by omega
    simp [Instr.index, asIntOf, run_underlying Tryd.underlying29, run_underlying Tryd.underlying28, Go.part, isAgg, sizeOf, typeInfo, hq, hj, h1, hi]

/-- the package's two tables lie as its text lays them: the round constants in block 0, the initial state in block 1 -/
def KK : List Nat := [1116352408, 1899447441, 3049323471, 3921009573, 961987163, 1508970993, 2453635748, 2870763221, 3624381080, 310598401, 607225278, 1426881987, 1925078388, 2162078206, 2614888103, 3248222580, 3835390401, 4022224774, 264347078, 604807628, 770255983, 1249150122, 1555081692, 1996064986, 2554220882, 2821834349, 2952996808, 3210313671, 3336571891, 3584528711, 113926993, 338241895, 666307205, 773529912, 1294757372, 1396182291, 1695183700, 1986661051, 2177026350, 2456956037, 2730485921, 2820302411, 3259730800, 3345764771, 3516065817, 3600352804, 4094571909, 275423344, 430227734, 506948616, 659060556, 883997877, 958139571, 1322822218, 1537002063, 1747873779, 1955562222, 2024104815, 2227730452, 2361852424, 2428436474, 2756734187, 3204031479, 3329325298]
def HH : List Nat := [1779033703, 3144134277, 1013904242, 2773480762, 1359893119, 2600822924, 528734635, 1541459225]
structure Tabs (w : World) : Prop where
  two : 2 ≤ w.heap.size
  k : ∃ t fr, w.heap[0]? = some (.cells (u32s KK) t fr)
  h : ∃ t fr, w.heap[1]? = some (.cells (u32s HH) t fr)
theorem Tabs.below {w w' : World} {B : Nat} (h : Tabs w) (hb : Below B w w') (hB : 2 ≤ B) : Tabs w' :=
  ⟨Nat.le_trans h.two hb.size, by rw [hb.block 0 (by omega)]; exact h.k, by rw [hb.block 1 (by omega)]; exact h.h⟩
theorem Tabs.grown {w w' : World} {g : Nat} (h : Tabs w) (hb : w.grownBy w' (some g)) (hg : 2 ≤ g) : Tabs w' :=
  ⟨Nat.le_trans h.two hb.size, by rw [hb.block 0 (by have := h.two; omega) (by simp; omega)]; exact h.k, by rw [hb.block 1 (by have := h.two; omega) (by simp; omega)]; exact h.h⟩
theorem Tabs.kcell {w : World} (h : Tabs w) {i : Nat} (hi : i < 64) : w.cell? ⟨0, i, none⟩ = some (.int .u32 (KK.getD i 0 : Nat)) := by
  obtain ⟨t, fr, h⟩ := h.k
  exact (cell_of_row w 0 i _ t fr h).trans (u32s_at KK i hi)
theorem words_KK : Words KK := words_of_mem (by decide)
theorem words_HH : Words HH := words_of_mem (by decide)

theorem words_sched (b : List Nat) (hB : Bytes b) : Words (sched b) := words_ext _ (words_words b hB 16) 48
theorem rnd_words (s : List Nat) (k w : Nat) (h : Words s) : Words (rnd s k w) := by
  refine words_of_mem fun x hx => ?_
  simp only [rnd, List.mem_cons, List.not_mem_nil, or_false] at hx
  rcases hx with rfl | rfl | rfl | rfl | rfl | rfl | rfl | rfl
  · exact Nat.mod_lt _ (by omega)
  · exact h 0
  · exact h 1
  · exact h 2
  · exact Nat.mod_lt _ (by omega)
  · exact h 4
  · exact h 5
  · exact h 6
theorem rnds_words (K W s : List Nat) (h : Words s) (n : Nat) : Words (rnds K W s n) := by
  induction n with
  | zero => exact h
  | succ n ih => exact rnd_words _ _ _ ih
theorem rnds_length (K W s : List Nat) (h : s.length = 8) (n : Nat) : (rnds K W s n).length = 8 := by
  cases n with
  | zero => exact h
  | succ n => rfl
theorem list8 (l : List Nat) (h : l.length = 8) : ∃ a b c d e f g z, l = [a, b, c, d, e, f, g, z] := by
  match l, h with
  | [a, b, c, d, e, f, g, z], _ => exact ⟨a, b, c, d, e, f, g, z, rfl⟩
theorem round_list (st : List Nat) (hl : st.length = 8) (hS : Words st) (k x : Nat) (hk : k < 4294967296) (hx : x < 4294967296) (w : World) (s : Nat) (hs : Blk w s 30 (u32s st)) :
    Calls Tryd.prog 66 #[.int .u32 k, .int .u32 x, .pointer (some ⟨s, 0, none⟩)] w fun r w' => r = .returned (.tuple #[]) ∧ Blk w' s 30 (u32s (rnd st k x)) ∧ w.grownBy w' (some s) := by
  obtain ⟨a, b, c, d, e, f, g, z, rfl⟩ := list8 st hl
  exact round_any a b c d e f g z k x (hS 0) (hS 1) (hS 2) (hS 3) (hS 4) (hS 5) (hS 6) (hS 7) hk hx w s hs
/-- the first i words summed up already -/
def addTo (v s : List Nat) (i : Nat) : List Nat := (List.range 8).map fun j => if j < i then (v.getD j 0 + s.getD j 0) % 4294967296 else v.getD j 0
theorem addTo_length (v s : List Nat) (i : Nat) : (addTo v s i).length = 8 := by simp [addTo]
theorem addTo_getD (v s : List Nat) (i j : Nat) (hj : j < 8) : (addTo v s i).getD j 0 = if j < i then (v.getD j 0 + s.getD j 0) % 4294967296 else v.getD j 0 := by
  simp [addTo, List.getD_eq_getElem?_getD, hj]
theorem addTo_at (v s : List Nat) (i : Nat) (hi : i < 8) : (addTo v s i).getD i 0 = v.getD i 0 := by rw [addTo_getD _ _ _ _ hi, if_neg (by omega)]
theorem ext_getD {l r : List Nat} {n : Nat} (hl : l.length = n) (hr : r.length = n) (h : ∀ j, j < n → l.getD j 0 = r.getD j 0) : l = r := by
  refine List.ext_getElem (by omega) fun j h1 h2 => ?_
  have := h j (by omega)
  simpa [List.getD_eq_getElem?_getD, List.getElem?_eq_getElem h1, List.getElem?_eq_getElem h2] using this
theorem addTo_zero (v s : List Nat) (h : v.length = 8) : addTo v s 0 = v :=
  ext_getD (addTo_length _ _ _) h fun j hj => by rw [addTo_getD _ _ _ _ hj, if_neg (by omega)]
theorem addTo_full (v s : List Nat) : addTo v s 8 = addUp v s :=
  ext_getD (addTo_length _ _ _) (by simp [addUp]) fun j hj => by rw [addTo_getD _ _ _ _ hj, if_pos hj]; simp [addUp, List.getD_eq_getElem?_getD, hj]
theorem addTo_set (v s : List Nat) (i : Nat) (hi : i < 8) : (addTo v s i).set i ((v.getD i 0 + s.getD i 0) % 4294967296) = addTo v s (i + 1) := by
  refine ext_getD (n := 8) (by rw [List.length_set, addTo_length]) (addTo_length _ _ _) fun j hj => ?_
  rw [addTo_getD _ _ _ _ hj]
  by_cases e : i = j
  · subst e
    rw [getD_set_same _ _ _ (by rw [addTo_length]; exact hi), if_pos (by omega)]
  · rw [List.getD_eq_getElem?_getD, List.getElem?_set_ne e, ← List.getD_eq_getElem?_getD, addTo_getD _ _ _ _ hj]
    by_cases h : j < i
    · rw [if_pos h, if_pos (by omega)]
    · rw [if_neg h, if_neg (by omega)]
theorem size30l (l : List Nat) (h : l.length = 8) : (Tryd.prog.info? 30).map (·.size) = some (u32s l).size := by
  rw [u32s_size, h]; kernel_rfl
theorem size37l (l : List Nat) (h : l.length = 64) : (Tryd.prog.info? 37).map (·.size) = some (u8s l).size := by
  rw [u8s_size, h]; kernel_rfl
set_option maxRecDepth 100000 in
theorem compress_any (st b : List Nat) (hst : st.length = 8) (hS : Words st) (hb : b.length = 64) (hB : Bytes b) (w : World) (hT : Tabs w) :
    Calls Tryd.prog 23 #[.agg (u32s st), .agg (u8s b)] w fun e w' => e = .returned (.agg (u32s (compress KK st b))) ∧ Below w.heap.size w w' := by
  go_enter Tryd.func23, Tryd.ntmps23
  have A : Blk (((w.alloc (.cells (u32s st) 30)).alloc (.cells (u8s b) 37)).alloc (.cells (u32s (List.replicate 8 0)) 30)) w.heap.size 30 (u32s st) := ((Blk.new _ _ _).alloc _).alloc _
  have HA := Lib.hid A; clear A
  have A2 : Blk ((((w.alloc (.cells (u32s st) 30)).alloc (.cells (u8s b) 37)).alloc (.cells (u32s (List.replicate 8 0)) 30)).alloc (.cells (u32s (List.replicate 8 0)) 30)) (w.heap.size + 1 + 1 + 1) 30 (u32s (List.replicate 8 0)) := Blk.new3 _ _ _ _ _ _
  have HA2 := Lib.hid A2; clear A2
  have A3 : Blk (((((w.alloc (.cells (u32s st) 30)).alloc (.cells (u8s b) 37)).alloc (.cells (u32s (List.replicate 8 0)) 30)).alloc (.cells (u32s (List.replicate 8 0)) 30)).setRow (w.heap.size + 1 + 1 + 1) (u32s st)) (w.heap.size + 1) 37 (u8s b) :=
    (((Blk.new1 _ _ _ _).alloc _).alloc _).farRow (by omega) _
  have HA3 := Lib.hid A3; clear A3
  go_wp2_with (first
    | (refine wpList_load_row rfl 30 (.tmp 2) rfl w.heap.size rfl 30 (u32s st) (0, 0) _ HA.out Tryd.underlying30 rfl (size30l st hst) ?_)
    | (refine wpList_store_row rfl 30 (.tmp 5) (.tmp 10) rfl (w.heap.size + 1 + 1 + 1) (u32s st) rfl rfl 30 (u32s (List.replicate 8 0)) HA2.out (size30l st hst) (by rw [u32s_size, u32s_size, hst]; rfl) (u32s_one _) ?_)
    | (refine wpList_load_row rfl 37 (.tmp 3) rfl (w.heap.size + 1) rfl 37 (u8s b) (0, 0) _ HA3.out Tryd.underlying37 rfl (size37l b hb) ?_))
  refine (sched_any b hb hB _).mono ?_; rintro e w1 ⟨rfl, hbel⟩
  have s1 : w.heap.size + 1 + 1 + 1 + 1 ≤ w1.heap.size := by have := hbel.size; simpa using this
  have B0 : Below w.heap.size w w1 := by
    refine Below.trans ?_ (hbel.mono (by simp; omega))
    exact below_setRow' (((((Below.refl _ _).alloc (Nat.le_refl _) _).alloc (by simp) _).alloc (by simp; omega) _).alloc (by simp; omega) _) (by omega) _
  have E1 : Blk w1 w.heap.size 30 (u32s st) := Blk.below ((HA.out.alloc _).farRow (by omega) _) hbel (by simp; omega)
  have E2 : Blk w1 (w.heap.size + 1 + 1) 30 (u32s (List.replicate 8 0)) := Blk.below (((Blk.new2 _ _ _ _ _).alloc _).farRow (by omega) _) hbel (by simp)
  have E3 : Blk w1 (w.heap.size + 1 + 1 + 1) 30 (u32s st) := Blk.below (HA2.out.setRow _) hbel (by simp)
  have T1 : Tabs w1 := hT.below B0 hT.two
  clear HA HA2 HA3 hbel
  have HE := Lib.hid (And.intro E1 (And.intro E2 (And.intro E3 (And.intro B0 T1)))); clear E1 E2 E3 B0 T1
  go_wp2_with fail
  go_loopg [14] 64 (fun k i wr => ∃ t : Nat, t + k = 64 ∧ i = .int .i64 t ∧ Blk wr w.heap.size 30 (u32s st) ∧ Blk wr (w.heap.size + 1 + 1) 30 (u32s (List.replicate 8 0)) ∧
    Blk wr (w.heap.size + 1 + 1 + 1) 30 (u32s (rnds KK (sched b) st t)) ∧ Below w.heap.size w wr ∧ Tabs wr ∧ w.heap.size + 1 + 1 + 1 + 1 ≤ wr.heap.size)
  case atStart => obtain ⟨E1, E2, E3, B0, T1⟩ := HE.out; exact ⟨0, rfl, rfl, E1, E2, E3, B0, T1, s1⟩
  case round =>
    obtain ⟨t, htk, rfl, E1, E2, E3, B0, T1, hsz⟩ := hrel
    have HTK := Lib.hid htk; clear htk HE s1
    by_cases ht : t < 64
    · have hix := run_index_word (sched b) (sched_length b) t ht
      have kc := T1.kcell ht
      have lx := words_sched b hB t
      have lk := words_KK t
      generalize hx : (sched b).getD t 0 = x at *
      generalize hk : KK.getD t 0 = kk at *
      have HX := Lib.hid (And.intro hx hk); clear hx hk
      have HE := Lib.hid (And.intro E1 (And.intro E2 (And.intro E3 (And.intro B0 T1)))); clear E1 E2 E3 B0 T1
      go_wp2_with fail
      have E3 := HE.out.2.2.1
      have T1 := HE.out.2.2.2.2
      refine (round_list _ (rnds_length KK (sched b) st hst t) (rnds_words KK (sched b) st hS t) kk x lk lx wr _ E3).mono ?_
      clear E3 T1
      rintro e w2 ⟨rfl, E3, G⟩
      have HG := Lib.hid (And.intro E3 G); clear E3 G
      go_wp2_with fail
      go_roundg (gk - 1)
      case measure => have := HTK.out; omega
      case rel =>
        obtain ⟨E1, E2, E3', B0, T1⟩ := HE.out
        obtain ⟨E3, G⟩ := HG.out
        obtain ⟨hx, hk⟩ := HX.out
        refine ⟨t + 1, by have := HTK.out; omega, by go_num, E1.grown G (by simp; omega), E2.grown G (by simp), ?_, B0.grown G (by omega) (by simp; omega), T1.grown G (by have := hT.two; omega), Nat.le_trans hsz G.size⟩
        rw [rnds, hx, hk]; exact E3
    · obtain rfl : t = 64 := by have := HTK.out; omega
      clear ht
      generalize hv : rnds KK (sched b) st 64 = v at *
      have hvl : v.length = 8 := by rw [← hv]; exact rnds_length _ _ _ hst _
      have hvw : Words v := by rw [← hv]; exact rnds_words _ _ _ hS _
      have HV := Lib.hid hv; clear hv
      have HE := Lib.hid (And.intro E1 (And.intro E2 (And.intro E3 (And.intro B0 T1)))); clear E1 E2 E3 B0 T1
      go_wp2_with fail
      go_loopg [25] 8 (fun k i wr => ∃ t : Nat, t + k = 8 ∧ i = .int .i64 t ∧ Blk wr w.heap.size 30 (u32s st) ∧ Blk wr (w.heap.size + 1 + 1) 30 (u32s (List.replicate 8 0)) ∧
        Blk wr (w.heap.size + 1 + 1 + 1) 30 (u32s (addTo v st t)) ∧ Below w.heap.size w wr)
      case atStart => obtain ⟨E1, E2, E3, B0, T1⟩ := HE.out; exact ⟨0, rfl, rfl, E1, E2, by rw [addTo_zero v st hvl]; exact E3, B0⟩
      case round =>
        obtain ⟨t, htk, rfl, E1, E2, E3, B0⟩ := hrel
        have HTK := Lib.hid htk; clear htk HE
        by_cases ht : t < 8
        · have c1 := E1.u32 (i := t) (by omega)
          have c3 := E3.u32 (i := t) (by rw [addTo_length]; omega)
          have f3 := E3.frozen t
          rw [addTo_at v st t ht] at c3
          have l1 := hS t; have l3 := hvw t
          have hset := addTo_set v st t ht
          generalize st.getD t 0 = x at *
          generalize v.getD t 0 = y at *
          have HS := Lib.hid hset; clear hset
          have HE := Lib.hid (And.intro E1 (And.intro E2 (And.intro E3 B0))); clear E1 E2 E3 B0
          go_wp2_with fail
          go_region
          go_wp2
          go_roundg (gk - 1)
          case measure => have := HTK.out; omega
          case rel =>
            obtain ⟨E1, E2, E3, B0⟩ := HE.out
            refine ⟨t + 1, by have := HTK.out; omega, by go_num, (E1.drewN 1).far (by simp; omega) _, (E2.drewN 1).far (by simp) _, ?_, (below_drewN B0 1).setCell (by simp; omega) _⟩
            have h := (E3.drewN 1).set_ t (.int .u32 ((y + x) % 4294967296 : Nat))
            rw [u32s_set, HS.out] at h
            exact h
        · obtain rfl : t = 8 := by have := HTK.out; omega
          clear ht
          rw [addTo_full] at E3
          have hl8 : (addUp v st).length = 8 := by simp [addUp]
          have HL8 := Lib.hid hl8; clear hl8
          have HE := Lib.hid (And.intro E1 (And.intro E2 (And.intro E3 B0))); clear E1 E2 E3 B0
          go_wp2_with (first
            | (refine wpList_load_row rfl 30 (.tmp 5) rfl (w.heap.size + 1 + 1 + 1) rfl 30 (u32s (addUp v st)) (0, 0) _ HE.out.2.2.1 Tryd.underlying30 rfl (size30l _ HL8.out) ?_)
            | (refine wpList_store_row rfl 30 (.tmp 4) (.tmp 37) rfl (w.heap.size + 1 + 1) (u32s (addUp v st)) rfl rfl 30 (u32s (List.replicate 8 0)) HE.out.2.1 (size30l _ HL8.out) (by rw [u32s_size, u32s_size, HL8.out]; rfl) (u32s_one _) ?_))
          obtain ⟨E1, E2, E3, B0⟩ := HE.out
          refine bodyPost_ret (v := .agg (u32s (addUp v st))) (results_cell_row rfl _ _ (w.heap.size + 1 + 1) 30 _ (0, 0) _ rfl (E2.setRow _) Tryd.underlying30 rfl (size30l _ HL8.out)) rfl ⟨?_, below_setRow' B0 (by omega) _⟩
          rw [compress, HV.out]
end Go.Proofs.YtediocpdpghbfaaDoor
