/- Merkle: the inputs of the hash function, the hashes of leaves and of nodes (the program's and the reference's), the split of a number. -/
import Derived.Test.YtediocpdpghbfaaDoorLclo
set_option linter.unusedSimpArgs false
set_option linter.unusedVariables false
namespace Go.Proofs.YtediocpdpghbfaaDoor
open Go Go.RowKit

/-- a variable that was just made is filled: what is known of the world behind -/
theorem wpList_fillM {P : Program} {ops : Array Oper} {Q : Exit → Act → World → Prop} {rest : List Oper} {o : Oper} {a : Act} {w : World} {cs0 : Array Value} {t : TypeId} (hgd : o.guard = none) (ty : TypeId) (p x : Operand) (ho : o.op = .store ty p x)
    (cs : Array Value) (hp : a.eval p = .pointer (some ⟨w.heap.size, 0, none⟩)) (hx : a.eval x = .agg cs) (hi : (P.info? ty).map (·.size) = some cs.size) (hs : cs0.size = cs.size) (h1 : cs.all (·.oneCell') = true)
    (h : ∀ W', Blk W' w.heap.size t cs → Below w.heap.size w W' → wpList P ops Q rest (a.put o.dst undef) W') : wpList P ops Q (o :: rest) a (w.alloc (.cells cs0 t)) :=
  wpList_store_row hgd ty p x ho w.heap.size cs hp hx t cs0 (Blk.new _ _ _) hi hs h1 (h _ ((Blk.new _ _ _).setRow _) (below_setRow' ((Below.refl _ _).alloc (Nat.le_refl _) _) (Nat.le_refl _) _))
theorem load24M {w : World} {S t : Nat} {st : List Nat} (h : Blk w S t (u8s st)) (hl : st.length = 32) :
    (loadAgg 24 (.pointer (some ⟨S, 0, none⟩))).run Tryd.prog w = .ok (.agg (u8s st)) w := by
  have := loadAgg_run (P := Tryd.prog) (w := w) (ty := 24) (g := S) (off := 0) (u8s st).toList Tryd.underlying24 rfl (by rw [Array.length_toList]; exact size24 st hl) (fun j v hv => by
    rw [Nat.zero_add, h.cell]; simpa using hv)
  simpa using this
/-! ### plain -/
def leafL (p : List Nat) : List Nat := sha (0 :: p)
def nodeL (a b : List Nat) : List Nat := sha (1 :: (a ++ b))
theorem leafL_length (p : List Nat) : (leafL p).length = 32 := sha_length _
theorem nodeL_length (a b : List Nat) : (nodeL a b).length = 32 := sha_length _
theorem sha_bytes (m : List Nat) : Bytes (sha m) := by
  refine Bytes.of_mem fun x hx => ?_
  simp only [sha, digest, List.mem_map] at hx
  obtain ⟨i, _, rfl⟩ := hx
  exact Nat.mod_lt _ (by omega)

theorem bytes_cons {x : Nat} {l : List Nat} (hx : x < 256) (h : Bytes l) : Bytes (x :: l) := Bytes.of_mem fun y hy => by
  rcases List.mem_cons.1 hy with rfl | hy
  · exact hx
  · exact h.mem _ hy
theorem al25 : Tryd.prog.arrayLen 25 = 32 := by kernel_rfl
theorem el25 : Tryd.prog.elem 25 = 5 := by kernel_rfl
theorem al24 : Tryd.prog.arrayLen 24 = 32 := by kernel_rfl
theorem el24 : Tryd.prog.elem 24 = 5 := by kernel_rfl
theorem sl25 (w : World) (g : Nat) : (Instr.sliceAt 25 (.pointer (some ⟨g, 0, none⟩)) none none none).run Tryd.prog w = .ok (.slice (some ⟨g, 0, none⟩) 32 32) w := by
  rw [run_sliceAt_array_all (P := Tryd.prog) (t := 25) w ⟨g, 0, none⟩ (by rw [al25, el25]; exact Tryd.underlying25), al25, el25, run_sizeOf5]
  simp [slicedAt, Result.andThen, Addr.add]
theorem sl24 (w : World) (g : Nat) : (Instr.sliceAt 24 (.pointer (some ⟨g, 0, none⟩)) none none none).run Tryd.prog w = .ok (.slice (some ⟨g, 0, none⟩) 32 32) w := by
  rw [run_sliceAt_array_all (P := Tryd.prog) (t := 24) w ⟨g, 0, none⟩ (by rw [al24, el24]; exact Tryd.underlying24), al24, el24, run_sizeOf5]
  simp [slicedAt, Result.andThen, Addr.add]

/-! ### leafInput, nodeInput -/
set_option maxRecDepth 100000 in
set_option maxHeartbeats 1000000 in
theorem leafin_any (w : World) (b : List Nat) (A : Option Addr) (n cap : Nat) (hn : b.length = n) (hcap : n ≤ cap) (hlen : n ≤ 1000000) (hr : RW w A cap b) :
    Calls Tryd.prog 72 #[.slice A n cap] w fun e w' => ∃ A' c', e = .returned (.slice A' (n + 1) c') ∧ OB w' w.heap.size A' (n + 1) c' (0 :: b) ∧ Below w.heap.size w w' := by
  have HR := Lib.hid (And.intro hr hn)
  clear hr hn
  go_enter Tryd.func72, Tryd.ntmps72
  go_wp2_with (at_builtin; refine wpList_app8 rfl (.tmp 3) (.tmp 4) rfl w.heap.size (some ⟨w.heap.size, 0, none⟩) 1 1 [0] rfl (ob_one w 0) A n cap b rfl HR.out.2 (HR.out.1.alloc _) (by omega) (by simp) ?_; intro A1 c1 w1 O1 B1 _; have H1 := Lib.hid (And.intro O1 (((Below.refl _ _).alloc (Nat.le_refl _) _).trans B1)); clear O1 B1)
  go_ret
  obtain ⟨O1, B1⟩ := H1.out
  rw [Nat.add_comm 1 n] at O1
  refine ⟨A1, c1, ?_, O1, B1⟩
  rw [Nat.add_comm n 1]; rfl
theorem one_rw_at (W : World) (g : Nat) (hg : W.heap.size = g) (x : Nat) : RW (W.alloc (.cells #[.int .u8 (x : Int)] 5)) (some ⟨g, 0, none⟩) 1 [x] := hg ▸ one_rw W x
theorem made_ob (W : World) (cs : Array Value) (n base : Nat) (hw : base ≤ W.heap.size) (hn : cs.size = n) (hm : n ≤ 1000) : OB (W.alloc (.cells cs 5)) base (some ⟨W.heap.size, 0, none⟩) 0 n [] :=
  ⟨rfl, World.ownsRow_made W cs n hw (by unfold maxLen; omega) (by rw [hn, Nat.mul_one])⟩
theorem OB.base_le {w : World} {base base' : Nat} {A : Option Addr} {n cap : Nat} {l : List Nat} (h : OB w base A n cap l) (hb : base' ≤ base) : OB w base' A n cap l := by
  refine ⟨h.1, h.2.1, ?_⟩
  rcases h.2.2 with h2 | ⟨k, cap', cur, hv, hk, hh, h3, h4, h5, h6⟩
  · exact .inl h2
  · exact .inr ⟨k, cap', cur, hv, by omega, hh, h3, h4, h5, h6⟩
set_option maxRecDepth 100000 in
set_option maxHeartbeats 1000000 in
theorem nodein_any (w : World) (a b : List Nat) (ha : a.length = 32) (hb : b.length = 32) :
    Calls Tryd.prog 73 #[.agg (u8s a), .agg (u8s b)] w fun e w' => ∃ A' c', e = .returned (.slice A' 65 c') ∧ OB w' w.heap.size A' 65 c' (1 :: (a ++ b)) ∧ Below w.heap.size w w' := by
  obtain ⟨i0, hi0, hz0, hz1, hz2⟩ := info_parts info5
  have hmk : ∀ w, (Instr.makeSlice 22 (.int .i64 0) (.int .i64 65)).run Tryd.prog w = .ok (.slice (some ⟨w.heap.size, 0, none⟩) 0 65) (w.alloc (.cells (u8s (zer 65)) 5)) := fun w => by
    have := run_make_rowN (P := Tryd.prog) 22 5 i0 _ Tryd.underlying22 hi0 hz0 .i64 .i64 0 65 (by omega) (by rw [hz2]; omega) (by omega) w
    rwa [hz1, Nat.mul_one, madeCells_u8] at this
  have F1 : Blk ((w.alloc (.cells (u8s a) 25)).alloc (.cells (u8s b) 25)) w.heap.size 25 (u8s a) := (Blk.new _ _ _).alloc _
  have F2 : Blk ((w.alloc (.cells (u8s a) 25)).alloc (.cells (u8s b) 25)) (w.heap.size + 1) 25 (u8s b) := Blk.new1 _ _ _ _
  have F3 : Below w.heap.size w ((w.alloc (.cells (u8s a) 25)).alloc (.cells (u8s b) 25)) := ((Below.refl _ _).alloc (Nat.le_refl _) _).alloc (by simp) _
  have O0 := made_ob ((w.alloc (.cells (u8s a) 25)).alloc (.cells (u8s b) 25)) (u8s (zer 65)) 65 (w.heap.size + 1 + 1) (by simp) (by rw [u8s_size]; rfl) (by omega)
  rw [size1, size1] at O0
  have HA := Lib.hid (And.intro F1 (And.intro F2 (And.intro F3 O0)))
  clear F1 F2 F3 O0 hi0 hz0 hz1 hz2
  have s1 := fun W => sl25 W w.heap.size
  have s2 := fun W => sl25 W (w.heap.size + 1)
  go_enter Tryd.func73, Tryd.ntmps73
  go_wp2_with (first
    | (at_builtin; refine wpList_app8 rfl (.tmp 7) (.tmp 8) rfl (w.heap.size + 1 + 1) _ 0 65 [] rfl (HA.out.2.2.2.alloc _) _ 1 1 [1] rfl rfl (one_rw_at _ _ (by simp only [size1]) 1) (by omega) (by simp only [size1]; omega) ?_; intro A1 c1 w1 O1 B1 _; simp only [Nat.zero_add, List.nil_append] at O1; have H1 := Lib.hid (And.intro O1 B1); clear O1 B1)
    | (at_builtin; refine wpList_app8 rfl (.tmp 10) (.tmp 11) rfl (w.heap.size + 1 + 1) A1 1 c1 [1] rfl H1.out.1 _ 32 _ a rfl ha ((((HA.out.1.alloc _).alloc _).below H1.out.2 (by omega)).rw) (by omega) (by have := H1.out.2.size; simp only [size1] at this; omega) ?_; intro A2 c2 w2 O2 B2 _; have H2 := Lib.hid (And.intro O2 (H1.out.2.trans B2)); clear O2 B2)
    | (at_builtin; refine wpList_app8 rfl (.tmp 13) (.tmp 14) rfl (w.heap.size + 1 + 1) A2 33 c2 (1 :: a) rfl H2.out.1 _ 32 _ b rfl hb ((((HA.out.2.1.alloc _).alloc _).below H2.out.2 (by omega)).rw) (by omega) (by have := H2.out.2.size; simp only [size1] at this; omega) ?_; intro A3 c3 w3 O3 B3 _; have H3 := Lib.hid (And.intro O3 (H2.out.2.trans B3)); clear O3 B3))
  go_ret
  exact ⟨A3, c3, rfl, H3.out.1.base_le (by omega), (((HA.out.2.2.1.alloc (by simp only [size1]; omega) _).alloc (by simp only [size1]; omega) _)).trans (H3.out.2.mono (by omega))⟩

/-! ### LeafHash, NodeHash -/
attribute [local go_sem ↓] ld25 st25 ld24 st24 ld32
set_option maxRecDepth 100000 in
set_option maxHeartbeats 1000000 in
theorem leafhash_any (w : World) (hT : Tabs w) (b : List Nat) (A : Option Addr) (n cap : Nat) (hn : b.length = n) (hcap : n ≤ cap) (hlen : n ≤ 1000000) (hB : Bytes b) (hr : RW w A cap b) :
    Calls Tryd.prog 39 #[.slice A n cap] w fun e w' => e = .returned (.agg (u8s (leafL b))) ∧ Below w.heap.size w w' := by
  have HT := Lib.hid hT
  have E0 := Blk.new w 25 (u8s (zer 32))
  have B0 := (Below.refl w.heap.size w).alloc (Nat.le_refl _) (.cells (u8s (zer 32)) 25)
  have HL := Lib.hid (leafin_any (w.alloc (.cells (u8s (zer 32)) 25)) b A n cap hn hcap hlen (hr.alloc _))
  have HE := Lib.hid (And.intro E0 (And.intro B0 (bytes_cons (show 0 < 256 by omega) hB)))
  clear hr E0 B0 hB hT
  have hl0 : (0 :: b).length = n + 1 := by simp [hn]
  have hd := leafL_length b
  have HS := Lib.hid (fun W (hT : Tabs W) Z cz (hz : n + 1 ≤ cz) (hr : RW W Z cz (0 :: b)) => sum_any W hT (0 :: b) Z cz (by rw [hl0]; exact hz) HE.out.2.2 (hr.rb (Nat.le_refl _)) (by rw [hl0]; omega))
  rw [hl0] at HS
  clear hl0
  rw [show sha (0 :: b) = leafL b from rfl] at HS
  generalize leafL b = d at *
  go_enter Tryd.func39, Tryd.ntmps39
  go_wp2_with fail
  refine HL.out.mono ?_
  rintro e w1 ⟨A1, c1, rfl, O1, B1⟩
  have E1 := HE.out.1.below B1 HE.out.1.lt
  have N1 : Below w.heap.size w w1 := HE.out.2.1.trans (B1.mono (by simp))
  have H1 := Lib.hid (And.intro O1 (And.intro E1 N1))
  clear O1 B1 E1 N1 HL
  go_wp2_with fail
  refine (HS.out _ (HT.out.below H1.out.2.2 HT.out.two) A1 c1 H1.out.1.cap_le H1.out.1.rw).mono ?_
  rintro e w2 ⟨rfl, B2⟩
  have H2 := Lib.hid (And.intro (H1.out.2.1.below B2 H1.out.2.1.lt) (H1.out.2.2.trans (B2.mono H1.out.2.2.size)))
  clear B2
  go_wp2_with (refine wpList_store_row rfl 25 (.tmp 2) (.tmp 5) rfl w.heap.size (u8s d) rfl rfl 25 (u8s (zer 32)) H2.out.1 (size25 _ hd) (by rw [u8s_size, u8s_size, hd]; rfl) (u8s_one _) ?_)
  exact bodyPost_ret (v := .agg (u8s d)) (results_cell_row rfl _ _ w.heap.size 25 _ (0, 0) _ rfl (H2.out.1.setRow _) Tryd.underlying25 rfl (size25 _ hd)) rfl ⟨rfl, below_setRow' H2.out.2 (Nat.le_refl _) _⟩
set_option maxRecDepth 100000 in
set_option maxHeartbeats 1000000 in
theorem nodehash_any (w : World) (hT : Tabs w) (a b : List Nat) (ha : a.length = 32) (hb : b.length = 32) (hA : Bytes a) (hB : Bytes b) :
    Calls Tryd.prog 41 #[.agg (u8s a), .agg (u8s b)] w fun e w' => e = .returned (.agg (u8s (nodeL a b))) ∧ Below w.heap.size w w' := by
  have HT := Lib.hid hT
  have E1 := ((Blk.new w 25 (u8s a)).alloc (.cells (u8s b) 25)).alloc (.cells (u8s (zer 32)) 25)
  have E2 := (Blk.new1 w (.cells (u8s a) 25) 25 (u8s b)).alloc (.cells (u8s (zer 32)) 25)
  have E3 := Blk.new2 w (.cells (u8s a) 25) (.cells (u8s b) 25) 25 (u8s (zer 32))
  have B0 : Below w.heap.size w (((w.alloc (.cells (u8s a) 25)).alloc (.cells (u8s b) 25)).alloc (.cells (u8s (zer 32)) 25)) := (((Below.refl _ _).alloc (Nat.le_refl _) _).alloc (by simp) _).alloc (by simp only [size1]; omega) _
  have hl0 : (1 :: (a ++ b)).length = 65 := by simp [ha, hb]
  have hd := nodeL_length a b
  have hB1 := bytes_cons (show 1 < 256 by omega) (hA.append hB)
  have HN := Lib.hid (fun W => nodein_any W a b ha hb)
  have HS := Lib.hid (fun W (hT : Tabs W) Z cz (hz : 65 ≤ cz) (hr : RW W Z cz (1 :: (a ++ b))) => sum_any W hT (1 :: (a ++ b)) Z cz (by rw [hl0]; exact hz) hB1 (hr.rb (Nat.le_refl _)) (by rw [hl0]; omega))
  rw [hl0] at HS
  rw [show sha (1 :: (a ++ b)) = nodeL a b from rfl] at HS
  have HE := Lib.hid (And.intro E3 B0)
  have HF := Lib.hid (And.intro E1 E2)
  clear E1 E2 E3 B0 hT hA hB hB1 hl0
  generalize nodeL a b = d at *
  go_enter Tryd.func41, Tryd.ntmps41
  go_wp2_with (first
    | (refine wpList_load_row rfl 25 (.tmp 2) rfl w.heap.size rfl 25 (u8s a) (0, 0) _ HF.out.1 Tryd.underlying25 rfl (size25 _ ha) ?_)
    | (refine wpList_load_row rfl 25 (.tmp 3) rfl (w.heap.size + 1) rfl 25 (u8s b) (0, 0) _ HF.out.2 Tryd.underlying25 rfl (size25 _ hb) ?_))
  refine (HN.out _).mono ?_
  rintro e w1 ⟨A1, c1, rfl, O1, B1⟩
  have E1 := HE.out.1.below B1 HE.out.1.lt
  have N1 : Below w.heap.size w w1 := HE.out.2.trans (B1.mono (by simp only [size1]; omega))
  have H1 := Lib.hid (And.intro O1 (And.intro E1 N1))
  clear O1 B1 E1 N1 HN
  go_wp2_with fail
  refine (HS.out _ (HT.out.below H1.out.2.2 HT.out.two) A1 c1 H1.out.1.cap_le H1.out.1.rw).mono ?_
  rintro e w2 ⟨rfl, B2⟩
  have H2 := Lib.hid (And.intro (H1.out.2.1.below B2 H1.out.2.1.lt) (H1.out.2.2.trans (B2.mono H1.out.2.2.size)))
  clear B2
  go_wp2_with (refine wpList_store_row rfl 25 (.tmp 4) (.tmp 8) rfl (w.heap.size + 1 + 1) (u8s d) rfl rfl 25 (u8s (zer 32)) H2.out.1 (size25 _ hd) (by rw [u8s_size, u8s_size, hd]; rfl) (u8s_one _) ?_)
  exact bodyPost_ret (v := .agg (u8s d)) (results_cell_row rfl _ _ (w.heap.size + 1 + 1) 25 _ (0, 0) _ rfl (H2.out.1.setRow _) Tryd.underlying25 rfl (size25 _ hd)) rfl ⟨rfl, below_setRow' H2.out.2 (by omega) _⟩
end Go.Proofs.YtediocpdpghbfaaDoor
