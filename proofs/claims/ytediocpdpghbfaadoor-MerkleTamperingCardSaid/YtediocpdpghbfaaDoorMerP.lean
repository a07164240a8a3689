/- Merkle: the inputs of the hash function, the hashes of leaves and of nodes (the program's and the reference's), the split of a number. Merkle: the reference's hashes of leaves and of nodes. Merkle: the split of a number, the root of leaves (plain), the two functions split. Merkle: the root of leaves: rootOf and Root, the program's and the reference's. Merkle: Root, the program's and the reference's. Merkle: slices of digests that the call owns; append of one digest. Merkle: the law's digest (32 bytes out of any bytes), the reference's Make. Merkle: the tree. Merkle: the root of a tree. Merkle: Append of a tree; Root of the nil tree. Merkle: Append of a tree: the walk. Merkle: Append's refusals. Merkle: Clone of the nil tree. Merkle: Clone of a tree. Merkle: the plain law of the tree: its root is the root of the leaves. -/
import Derived.Test.YtediocpdpghbfaaDoorShaR
import Derived.Deep.RegionLaw
import Derived.Great.FillDense
import Derived.Test.YtediocpdpghbfaaDoorRegP
set_option linter.unusedSimpArgs false
set_option linter.unusedVariables false
namespace Go.Proofs.YtediocpdpghbfaaDoor
open Go Go.RowKit

/-- a variable that was just made is filled: what is known of the world behind -/
theorem wpList_fillM {P : Program} {ops : Array Oper} {Q : Exit → Act → World → Prop} {rest : List Oper} {o : Oper} {a : Act} {w : World} {cs0 : Array Value} {t : TypeId} (hgd : o.guard = none) (ty : TypeId) (p x : Operand) (ho : o.op = .store ty p x)
    (cs : Array Value) (hp : a.eval p = .pointer (some ⟨w.heap.size, 0, none⟩)) (hx : a.eval x = .agg cs) (hi : (P.info? ty).map (·.size) = some cs.size) (hs : cs0.size = cs.size) (h1 : cs.all (·.oneCell') = true)
    (h : ∀ W', Blk W' w.heap.size t cs → Below w.heap.size w W' → wpList P ops Q rest (a.put o.dst undef) W') : wpList P ops Q (o :: rest) a (w.alloc (.cells cs0 t)) :=
  wpList_store_row hgd ty p x ho w.heap.size cs hp hx t cs0 (Blk.new _ _ _) hi hs h1 (h _ ((Blk.new _ _ _).setRow _) (below_setRow' ((Below.refl _ _).alloc (Nat.le_refl _) _) (Nat.le_refl _) _))
theorem load24M {w : World} {S t : Nat} {st : List Nat} (h : Blk w S t (u8s st)) (hl : st.length = 32) :
    (loadAgg 24 (.pointer (some ⟨S, 0, none⟩))).run Tryd.prog w = .ok (.agg (u8s st)) w := by
  have := loadAgg_run (P := Tryd.prog) (w := w) (ty := 24) (g := S) (off := 0) (u8s st).toList Tryd.underlying24 rfl (by rw [Array.length_toList]; exact size24 st hl) (fun j v hv => by
    rw [Nat.zero_add, h.cell]; simpa using hv)
  simpa using this
/-! ### plain -/
def leafL (p : List Nat) : List Nat := sha (0 :: p)
def nodeL (a b : List Nat) : List Nat := sha (1 :: (a ++ b))
theorem leafL_length (p : List Nat) : (leafL p).length = 32 := sha_length _
theorem nodeL_length (a b : List Nat) : (nodeL a b).length = 32 := sha_length _
theorem sha_bytes (m : List Nat) : Bytes (sha m) := by
  refine Bytes.of_mem fun x hx => ?_
  simp only [sha, digest, List.mem_map] at hx
  obtain ⟨i, _, rfl⟩ := hx
  exact Nat.mod_lt _ (by omega)

theorem bytes_cons {x : Nat} {l : List Nat} (hx : x < 256) (h : Bytes l) : Bytes (x :: l) := Bytes.of_mem fun y hy => by
  rcases List.mem_cons.1 hy with rfl | hy
  · exact hx
  · exact h.mem _ hy
theorem al25 : Tryd.prog.arrayLen 25 = 32 := by kernel_rfl
theorem el25 : Tryd.prog.elem 25 = 5 := by kernel_rfl
theorem al24 : Tryd.prog.arrayLen 24 = 32 := by kernel_rfl
theorem el24 : Tryd.prog.elem 24 = 5 := by kernel_rfl
theorem sl25 (w : World) (g : Nat) : (Instr.sliceAt 25 (.pointer (some ⟨g, 0, none⟩)) none none none).run Tryd.prog w = .ok (.slice (some ⟨g, 0, none⟩) 32 32) w := by
  rw [run_sliceAt_array_all (P := Tryd.prog) (t := 25) w ⟨g, 0, none⟩ (by rw [al25, el25]; exact Tryd.underlying25), al25, el25, run_sizeOf5]
  simp [slicedAt, Result.andThen, Addr.add]
theorem sl24 (w : World) (g : Nat) : (Instr.sliceAt 24 (.pointer (some ⟨g, 0, none⟩)) none none none).run Tryd.prog w = .ok (.slice (some ⟨g, 0, none⟩) 32 32) w := by
  rw [run_sliceAt_array_all (P := Tryd.prog) (t := 24) w ⟨g, 0, none⟩ (by rw [al24, el24]; exact Tryd.underlying24), al24, el24, run_sizeOf5]
  simp [slicedAt, Result.andThen, Addr.add]

/-! ### leafInput, nodeInput -/
set_option maxRecDepth 100000 in
set_option maxHeartbeats 1000000 in
theorem leafin_any (w : World) (b : List Nat) (A : Option Addr) (n cap : Nat) (hn : b.length = n) (hcap : n ≤ cap) (hlen : n ≤ 1000000) (hr : RW w A cap b) :
    Calls Tryd.prog 72 #[.slice A n cap] w fun e w' => ∃ A' c', e = .returned (.slice A' (n + 1) c') ∧ OB w' w.heap.size A' (n + 1) c' (0 :: b) ∧ Below w.heap.size w w' := by
  have HR := Lib.hid (And.intro hr hn)
  clear hr hn
  go_enter Tryd.func72, Tryd.ntmps72
  go_wp2_with (at_builtin; refine wpList_app8 rfl (.tmp 3) (.tmp 4) rfl w.heap.size (some ⟨w.heap.size, 0, none⟩) 1 1 [0] rfl (ob_one w 0) A n cap b rfl HR.out.2 (HR.out.1.alloc _) (by omega) (by simp) ?_; intro A1 c1 w1 O1 B1 _; have H1 := Lib.hid (And.intro O1 (((Below.refl _ _).alloc (Nat.le_refl _) _).trans B1)); clear O1 B1)
  go_ret
  obtain ⟨O1, B1⟩ := H1.out
  rw [Nat.add_comm 1 n] at O1
  refine ⟨A1, c1, ?_, O1, B1⟩
  rw [Nat.add_comm n 1]; rfl
theorem one_rw_at (W : World) (g : Nat) (hg : W.heap.size = g) (x : Nat) : RW (W.alloc (.cells #[.int .u8 (x : Int)] 5)) (some ⟨g, 0, none⟩) 1 [x] := hg ▸ one_rw W x
theorem made_ob (W : World) (cs : Array Value) (n base : Nat) (hw : base ≤ W.heap.size) (hn : cs.size = n) (hm : n ≤ 1000) : OB (W.alloc (.cells cs 5)) base (some ⟨W.heap.size, 0, none⟩) 0 n [] :=
  ⟨rfl, World.ownsRow_made W cs n hw (by unfold maxLen; omega) (by rw [hn, Nat.mul_one])⟩
theorem OB.base_le {w : World} {base base' : Nat} {A : Option Addr} {n cap : Nat} {l : List Nat} (h : OB w base A n cap l) (hb : base' ≤ base) : OB w base' A n cap l := by
  refine ⟨h.1, h.2.1, ?_⟩
  rcases h.2.2 with h2 | ⟨k, cap', cur, hv, hk, hh, h3, h4, h5, h6⟩
  · exact .inl h2
  · exact .inr ⟨k, cap', cur, hv, by omega, hh, h3, h4, h5, h6⟩
set_option maxRecDepth 100000 in
set_option maxHeartbeats 1000000 in
theorem nodein_any (w : World) (a b : List Nat) (ha : a.length = 32) (hb : b.length = 32) :
    Calls Tryd.prog 73 #[.agg (u8s a), .agg (u8s b)] w fun e w' => ∃ A' c', e = .returned (.slice A' 65 c') ∧ OB w' w.heap.size A' 65 c' (1 :: (a ++ b)) ∧ Below w.heap.size w w' := by
  obtain ⟨i0, hi0, hz0, hz1, hz2⟩ := info_parts info5
  have hmk : ∀ w, (Instr.makeSlice 22 (.int .i64 0) (.int .i64 65)).run Tryd.prog w = .ok (.slice (some ⟨w.heap.size, 0, none⟩) 0 65) (w.alloc (.cells (u8s (zer 65)) 5)) := fun w => by
    have := run_make_rowN (P := Tryd.prog) 22 5 i0 _ Tryd.underlying22 hi0 hz0 .i64 .i64 0 65 (by omega) (by rw [hz2]; omega) (by omega) w
    rwa [hz1, Nat.mul_one, madeCells_u8] at this
  have F1 : Blk ((w.alloc (.cells (u8s a) 25)).alloc (.cells (u8s b) 25)) w.heap.size 25 (u8s a) := (Blk.new _ _ _).alloc _
  have F2 : Blk ((w.alloc (.cells (u8s a) 25)).alloc (.cells (u8s b) 25)) (w.heap.size + 1) 25 (u8s b) := Blk.new1 _ _ _ _
  have F3 : Below w.heap.size w ((w.alloc (.cells (u8s a) 25)).alloc (.cells (u8s b) 25)) := ((Below.refl _ _).alloc (Nat.le_refl _) _).alloc (by simp) _
  have O0 := made_ob ((w.alloc (.cells (u8s a) 25)).alloc (.cells (u8s b) 25)) (u8s (zer 65)) 65 (w.heap.size + 1 + 1) (by simp) (by rw [u8s_size]; rfl) (by omega)
  rw [size1, size1] at O0
  have HA := Lib.hid (And.intro F1 (And.intro F2 (And.intro F3 O0)))
  clear F1 F2 F3 O0 hi0 hz0 hz1 hz2
  have s1 := fun W => sl25 W w.heap.size
  have s2 := fun W => sl25 W (w.heap.size + 1)
  go_enter Tryd.func73, Tryd.ntmps73
  go_wp2_with (first
    | (at_builtin; refine wpList_app8 rfl (.tmp 7) (.tmp 8) rfl (w.heap.size + 1 + 1) _ 0 65 [] rfl (HA.out.2.2.2.alloc _) _ 1 1 [1] rfl rfl (one_rw_at _ _ (by simp only [size1]) 1) (by omega) (by simp only [size1]; omega) ?_; intro A1 c1 w1 O1 B1 _; simp only [Nat.zero_add, List.nil_append] at O1; have H1 := Lib.hid (And.intro O1 B1); clear O1 B1)
    | (at_builtin; refine wpList_app8 rfl (.tmp 10) (.tmp 11) rfl (w.heap.size + 1 + 1) A1 1 c1 [1] rfl H1.out.1 _ 32 _ a rfl ha ((((HA.out.1.alloc _).alloc _).below H1.out.2 (by omega)).rw) (by omega) (by have := H1.out.2.size; simp only [size1] at this; omega) ?_; intro A2 c2 w2 O2 B2 _; have H2 := Lib.hid (And.intro O2 (H1.out.2.trans B2)); clear O2 B2)
    | (at_builtin; refine wpList_app8 rfl (.tmp 13) (.tmp 14) rfl (w.heap.size + 1 + 1) A2 33 c2 (1 :: a) rfl H2.out.1 _ 32 _ b rfl hb ((((HA.out.2.1.alloc _).alloc _).below H2.out.2 (by omega)).rw) (by omega) (by have := H2.out.2.size; simp only [size1] at this; omega) ?_; intro A3 c3 w3 O3 B3 _; have H3 := Lib.hid (And.intro O3 (H2.out.2.trans B3)); clear O3 B3))
  go_ret
  exact ⟨A3, c3, rfl, H3.out.1.base_le (by omega), (((HA.out.2.2.1.alloc (by simp only [size1]; omega) _).alloc (by simp only [size1]; omega) _)).trans (H3.out.2.mono (by omega))⟩

/-! ### LeafHash, NodeHash -/
attribute [local go_sem ↓] ld25 st25 ld24 st24 ld32
set_option maxRecDepth 100000 in
set_option maxHeartbeats 1000000 in
theorem leafhash_any (w : World) (hT : Tabs w) (b : List Nat) (A : Option Addr) (n cap : Nat) (hn : b.length = n) (hcap : n ≤ cap) (hlen : n ≤ 1000000) (hB : Bytes b) (hr : RW w A cap b) :
    Calls Tryd.prog 39 #[.slice A n cap] w fun e w' => e = .returned (.agg (u8s (leafL b))) ∧ Below w.heap.size w w' := by
  have HT := Lib.hid hT
  have E0 := Blk.new w 25 (u8s (zer 32))
  have B0 := (Below.refl w.heap.size w).alloc (Nat.le_refl _) (.cells (u8s (zer 32)) 25)
  have HL := Lib.hid (leafin_any (w.alloc (.cells (u8s (zer 32)) 25)) b A n cap hn hcap hlen (hr.alloc _))
  have HE := Lib.hid (And.intro E0 (And.intro B0 (bytes_cons (show 0 < 256 by omega) hB)))
  clear hr E0 B0 hB hT
  have hl0 : (0 :: b).length = n + 1 := by simp [hn]
  have hd := leafL_length b
  have HS := Lib.hid (fun W (hT : Tabs W) Z cz (hz : n + 1 ≤ cz) (hr : RW W Z cz (0 :: b)) => sum_any W hT (0 :: b) Z cz (by rw [hl0]; exact hz) HE.out.2.2 (hr.rb (Nat.le_refl _)) (by rw [hl0]; omega))
  rw [hl0] at HS
  clear hl0
  rw [show sha (0 :: b) = leafL b from rfl] at HS
  generalize leafL b = d at *
  go_enter Tryd.func39, Tryd.ntmps39
  go_wp2_with fail
  refine HL.out.mono ?_
  rintro e w1 ⟨A1, c1, rfl, O1, B1⟩
  have E1 := HE.out.1.below B1 HE.out.1.lt
  have N1 : Below w.heap.size w w1 := HE.out.2.1.trans (B1.mono (by simp))
  have H1 := Lib.hid (And.intro O1 (And.intro E1 N1))
  clear O1 B1 E1 N1 HL
  go_wp2_with fail
  refine (HS.out _ (HT.out.below H1.out.2.2 HT.out.two) A1 c1 H1.out.1.cap_le H1.out.1.rw).mono ?_
  rintro e w2 ⟨rfl, B2⟩
  have H2 := Lib.hid (And.intro (H1.out.2.1.below B2 H1.out.2.1.lt) (H1.out.2.2.trans (B2.mono H1.out.2.2.size)))
  clear B2
  go_wp2_with (refine wpList_store_row rfl 25 (.tmp 2) (.tmp 5) rfl w.heap.size (u8s d) rfl rfl 25 (u8s (zer 32)) H2.out.1 (size25 _ hd) (by rw [u8s_size, u8s_size, hd]; rfl) (u8s_one _) ?_)
  exact bodyPost_ret (v := .agg (u8s d)) (results_cell_row rfl _ _ w.heap.size 25 _ (0, 0) _ rfl (H2.out.1.setRow _) Tryd.underlying25 rfl (size25 _ hd)) rfl ⟨rfl, below_setRow' H2.out.2 (Nat.le_refl _) _⟩
set_option maxRecDepth 100000 in
set_option maxHeartbeats 1000000 in
theorem nodehash_any (w : World) (hT : Tabs w) (a b : List Nat) (ha : a.length = 32) (hb : b.length = 32) (hA : Bytes a) (hB : Bytes b) :
    Calls Tryd.prog 41 #[.agg (u8s a), .agg (u8s b)] w fun e w' => e = .returned (.agg (u8s (nodeL a b))) ∧ Below w.heap.size w w' := by
  have HT := Lib.hid hT
  have E1 := ((Blk.new w 25 (u8s a)).alloc (.cells (u8s b) 25)).alloc (.cells (u8s (zer 32)) 25)
  have E2 := (Blk.new1 w (.cells (u8s a) 25) 25 (u8s b)).alloc (.cells (u8s (zer 32)) 25)
  have E3 := Blk.new2 w (.cells (u8s a) 25) (.cells (u8s b) 25) 25 (u8s (zer 32))
  have B0 : Below w.heap.size w (((w.alloc (.cells (u8s a) 25)).alloc (.cells (u8s b) 25)).alloc (.cells (u8s (zer 32)) 25)) := (((Below.refl _ _).alloc (Nat.le_refl _) _).alloc (by simp) _).alloc (by simp only [size1]; omega) _
  have hl0 : (1 :: (a ++ b)).length = 65 := by simp [ha, hb]
  have hd := nodeL_length a b
  have hB1 := bytes_cons (show 1 < 256 by omega) (hA.append hB)
  have HN := Lib.hid (fun W => nodein_any W a b ha hb)
  have HS := Lib.hid (fun W (hT : Tabs W) Z cz (hz : 65 ≤ cz) (hr : RW W Z cz (1 :: (a ++ b))) => sum_any W hT (1 :: (a ++ b)) Z cz (by rw [hl0]; exact hz) hB1 (hr.rb (Nat.le_refl _)) (by rw [hl0]; omega))
  rw [hl0] at HS
  rw [show sha (1 :: (a ++ b)) = nodeL a b from rfl] at HS
  have HE := Lib.hid (And.intro E3 B0)
  have HF := Lib.hid (And.intro E1 E2)
  clear E1 E2 E3 B0 hT hA hB hB1 hl0
  generalize nodeL a b = d at *
  go_enter Tryd.func41, Tryd.ntmps41
  go_wp2_with (first
    | (refine wpList_load_row rfl 25 (.tmp 2) rfl w.heap.size rfl 25 (u8s a) (0, 0) _ HF.out.1 Tryd.underlying25 rfl (size25 _ ha) ?_)
    | (refine wpList_load_row rfl 25 (.tmp 3) rfl (w.heap.size + 1) rfl 25 (u8s b) (0, 0) _ HF.out.2 Tryd.underlying25 rfl (size25 _ hb) ?_))
  refine (HN.out _).mono ?_
  rintro e w1 ⟨A1, c1, rfl, O1, B1⟩
  have E1 := HE.out.1.below B1 HE.out.1.lt
  have N1 : Below w.heap.size w w1 := HE.out.2.trans (B1.mono (by simp only [size1]; omega))
  have H1 := Lib.hid (And.intro O1 (And.intro E1 N1))
  clear O1 B1 E1 N1 HN
  go_wp2_with fail
  refine (HS.out _ (HT.out.below H1.out.2.2 HT.out.two) A1 c1 H1.out.1.cap_le H1.out.1.rw).mono ?_
  rintro e w2 ⟨rfl, B2⟩
  have H2 := Lib.hid (And.intro (H1.out.2.1.below B2 H1.out.2.1.lt) (H1.out.2.2.trans (B2.mono H1.out.2.2.size)))
  clear B2
  go_wp2_with (refine wpList_store_row rfl 25 (.tmp 4) (.tmp 8) rfl (w.heap.size + 1 + 1) (u8s d) rfl rfl 25 (u8s (zer 32)) H2.out.1 (size25 _ hd) (by rw [u8s_size, u8s_size, hd]; rfl) (u8s_one _) ?_)
  exact bodyPost_ret (v := .agg (u8s d)) (results_cell_row rfl _ _ (w.heap.size + 1 + 1) 25 _ (0, 0) _ rfl (H2.out.1.setRow _) Tryd.underlying25 rfl (size25 _ hd)) rfl ⟨rfl, below_setRow' H2.out.2 (by omega) _⟩
end Go.Proofs.YtediocpdpghbfaaDoor
namespace Go.Proofs.YtediocpdpghbfaaDoor
open Go Go.RowKit

theorem step_of_list {P : Program} {ops : Array Oper} {Q : Exit → Act → World → Prop} {o : Oper} {a : Act} {w : World} {K : Act → World → Prop} {E : Prop} (hg : o.guard = none)
    (h : ∀ K' : Exit → Act → World → Prop, (∀ a w, K a w → K' .normal a w) → wpList P ops K' [o] a w) : if Region.wanted o (yielded ops a.tmps) = true then Oper.wp P o a w K Q else E := by
  have hw : Region.wanted o (yielded ops a.tmps) = true := by simp [Region.wanted, hg]
  rw [if_pos hw]
  have h1 := h (fun e a w => e = .normal ∧ K a w) (fun a w hk => ⟨rfl, hk⟩)
  unfold wpList at h1
  rw [if_pos hw] at h1
  rcases h1 with h1 | ⟨_, a', w', h1⟩
  · unfold Oper.wp at *
    generalize (execOp a.eval o).run P w = r at *
    cases r with
    | ok n w' =>
      cases n <;> simp only [Oper.upon, wpList] at h1 ⊢ <;>
        first
          | exact h1.2
          | (refine Calls.mono h1 fun e w'' he => ?_
             cases e with
             | returned u => exact he.2
             | panicked c => exact absurd he.1 (by simp)
             | outgrown => obtain ⟨a', w3, h3⟩ := he; exact absurd h3.1 (by simp))
          | exact Rows.mono h1 (fun _ _ he => he.2)
    | halt x w' => cases x <;> simp only [Oper.upon] at h1 ⊢ <;> first | exact h1 | exact absurd h1.1 (by simp)
  · exact absurd h1.1 (by simp)
theorem step_app8 {w : World} {ops : Array Oper} {o : Oper} {a : Act} {Q : Exit → Act → World → Prop} {K : Act → World → Prop} {E : Prop} (hgd : o.guard = none) (s x : Operand)
    (ho : o.op = .call { callee := .builtin .append, args := #[s, x], argTypes := #[22, 22] }) (base : Nat) (A : Option Addr) (n cap : Nat) (l : List Nat) (hs : a.eval s = .slice A n cap) (hown : OB w base A n cap l)
    (A2 : Option Addr) (m c2 : Nat) (l2 : List Nat) (hx : a.eval x = .slice A2 m c2) (hl2 : l2.length = m) (hr : RW w A2 c2 l2) (hlen : n + m ≤ 140737488355328) (hbase : base ≤ w.heap.size)
    (h : ∀ A' cap' w', OB w' base A' (n + m) cap' (l ++ l2) → Below base w w' → K (a.put o.dst (.slice A' (n + m) cap')) w') : if Region.wanted o (yielded ops a.tmps) = true then Oper.wp Tryd.prog o a w K Q else E :=
  step_of_list hgd fun K' hK => wpList_app8 hgd s x ho base A n cap l hs hown A2 m c2 l2 hx hl2 hr hlen hbase fun A' cap' w' hO hB _ => hK _ _ (h A' cap' w' hO hB)
theorem store24_run {w : World} {S : Nat} {d d' : List Nat} (h : Blk w S 24 (u8s d)) (hl : d.length = 32) (hl' : d'.length = 32) :
    (storeAgg 24 (.pointer (some ⟨S, 0, none⟩)) (.agg (u8s d'))).run Tryd.prog w = .ok () (w.setRow S (u8s d')) := by
  have := storeAgg_run (P := Tryd.prog) (ty := 24) (off := 0) (cur := (u8s d).toList) (u8s d') (by rw [Array.toArray_toList]; exact h) (size24 d' hl') (by rw [u8s_size, hl', Array.length_toList, u8s_size, hl]; omega) (u8s_one _)
  rw [this, List.drop_eq_nil_of_le (by rw [Array.length_toList, u8s_size, u8s_size, hl, hl']; omega), List.take_zero, List.nil_append, List.append_nil, Array.toArray_toList]
attribute [local go_sem ↓] ld32 ld24 st24
set_option maxRecDepth 100000 in
set_option maxHeartbeats 2000000 in
theorem rleaf_any (w : World) (b : List Nat) (A : Option Addr) (n cap : Nat) (hn : b.length = n) (hcap : n ≤ cap) (hlen : n ≤ 900000) (hB : Bytes b) (hr : RW w A cap b) :
    Calls Tryd.prog 40 #[.agg (u32s TT), .slice A n cap] w fun e w' => e = .returned (.agg (u8s (leafL b))) ∧ Below w.heap.size w w' := by
  obtain ⟨g, hg⟩ : ∃ g, w.heap.size = g := ⟨_, rfl⟩
  obtain ⟨W, hW⟩ : ∃ W, W = (w.alloc (.cells (u32s TT) 32)).alloc (.cells (u8s (zer 32)) 24) := ⟨_, rfl⟩
  have E1 : Blk W g 32 (u32s TT) := by rw [hW, ← hg]; exact (Blk.new _ _ _).alloc _
  have E2 : Blk W (g + 1) 24 (u8s (zer 32)) := by rw [hW, ← hg]; exact Blk.new1 _ _ _ _
  have B0 : Below g w W := by rw [hW, ← hg]; exact ((Below.refl _ _).alloc (Nat.le_refl _) _).alloc (by simp) _
  have hsz : W.heap.size = g + 1 + 1 := by rw [hW, ← hg]; simp
  have HE := Lib.hid (And.intro E1 (And.intro E2 (And.intro B0 (And.intro hsz (And.intro hn (bytes_cons (show 0 < 256 by omega) hB))))))
  have HR := Lib.hid ((hr.below (hg.symm ▸ B0)))
  have O0 : OB (W.alloc (.cells #[.int .u8 0] 5)) W.heap.size (some ⟨W.heap.size, 0, none⟩) 1 1 [0] := ob_one W 0
  have HO := Lib.hid O0
  clear O0
  have hl0 : (0 :: b).length = 1 + n := by simp [hn]; omega
  have hd := leafL_length b
  have l1 := load32_run E1.drew
  have HS := Lib.hid (fun W Z cz (hz : 1 + n ≤ cz) (hr : RW W Z cz (0 :: b)) => rsum_any W (0 :: b) Z cz (by rw [hl0]; exact hz) HE.out.2.2.2.2.2 hr (by rw [hl0]; omega))
  rw [hl0] at HS
  rw [show sha (0 :: b) = leafL b from rfl] at HS
  clear E1 E2 B0 hsz hn hB hr hl0
  generalize leafL b = d at *
  go_enter Tryd.func40, Tryd.ntmps40
  go_wp2_with fail
  change Code.wp _ _ _ _ ((w.alloc (.cells (u32s TT) 32)).alloc (.cells (u8s (zer 32)) 24))
  rw [← hW]
  have HG := Lib.hid hg
  clear hW hg
  have l2 := load32_run (HE.out.1.alloc (.cells #[.int .u8 0] 5)).drew
  go_region_law (first
    | (refine step_app8 (by rfl) (.tmp 6) (.tmp 7) (by rfl) W.heap.size (some ⟨W.heap.size, 0, none⟩) 1 1 [0] (by rfl) HO.out.drew A n cap b (by rfl) HE.out.2.2.2.2.1 ((HR.out.alloc _).drew) (by omega) (by simp) ?_; intro A1 c1 w1 O1 B1; have l3 := load32_run ((HE.out.1.alloc _).drew.below B1 HE.out.1.lt); have H1 := Lib.hid (And.intro O1 B1); clear O1 B1)
    | (rw [if_pos (by rfl)]; go_simp; go_at_call 21; refine (HS.out _ _ _ H1.out.1.cap_le H1.out.1.rw).mono ?_; rintro e w2 ⟨rfl, B2⟩; have E3 := ((HE.out.2.1.alloc _).drew.below H1.out.2 HE.out.2.1.lt).below B2 (((HE.out.2.1.alloc _).drew.below H1.out.2 HE.out.2.1.lt).lt); have s3 := store24_run E3 rfl hd; have H2 := Lib.hid (And.intro B2 E3); clear B2 E3))
  all_goals
    go_wp2_with fail
    have hgW : g ≤ W.heap.size := HE.out.2.2.1.size |> (HG.out ▸ ·)
    have hW1 : W.heap.size ≤ w1.heap.size := Nat.le_trans (by simp) H1.out.2.size
    refine bodyPost_ret (v := .agg (u8s d)) (results_cell_row rfl _ _ (g + 1) 24 _ (0, 0) _ rfl (H2.out.2.setRow _) Tryd.underlying24 rfl (size24 _ hd)) rfl ⟨rfl, ?_⟩
    rw [HG.out]
    exact below_setRow' (((HE.out.2.2.1.alloc hgW _).drew).trans ((H1.out.2.mono hgW).trans (H2.out.1.mono (Nat.le_trans hgW hW1)))) (by omega) _

set_option maxRecDepth 100000 in
set_option maxHeartbeats 4000000 in
theorem rnode_any (w : World) (a b : List Nat) (ha : a.length = 32) (hb : b.length = 32) (hA : Bytes a) (hB : Bytes b) :
    Calls Tryd.prog 76 #[.agg (u32s TT), .agg (u8s a), .agg (u8s b)] w fun e w' => e = .returned (.agg (u8s (nodeL a b))) ∧ Below w.heap.size w w' := by
  obtain ⟨g, hg⟩ : ∃ g, w.heap.size = g := ⟨_, rfl⟩
  obtain ⟨W, hW⟩ : ∃ W, W = (((w.alloc (.cells (u32s TT) 32)).alloc (.cells (u8s a) 24)).alloc (.cells (u8s b) 24)).alloc (.cells (u8s (zer 32)) 24) := ⟨_, rfl⟩
  have E1 : Blk W g 32 (u32s TT) := by rw [hW, ← hg]; exact (((Blk.new _ _ _).alloc _).alloc _).alloc _
  have E2 : Blk W (g + 1) 24 (u8s a) := by rw [hW, ← hg]; exact ((Blk.new1 _ _ _ _).alloc _).alloc _
  have E3 : Blk W (g + 1 + 1) 24 (u8s b) := by rw [hW, ← hg]; exact (Blk.new2 _ _ _ _ _).alloc _
  have E4 : Blk W (g + 1 + 1 + 1) 24 (u8s (zer 32)) := by rw [hW, ← hg]; exact Blk.new3 _ _ _ _ _ _
  have B0 : Below g w W := by rw [hW, ← hg]; exact ((((Below.refl _ _).alloc (Nat.le_refl _) _).alloc (by simp) _).alloc (by simp only [size1]; omega) _).alloc (by simp only [size1]; omega) _
  have hB1 := bytes_cons (show 1 < 256 by omega) (hA.append hB)
  have hl0 : (1 :: (a ++ b)).length = 65 := by simp [ha, hb]
  have HE := Lib.hid (And.intro E1 (And.intro E2 (And.intro E3 (And.intro E4 B0))))
  have O0 : OB (W.alloc (.cells #[.int .u8 1] 5)) W.heap.size (some ⟨W.heap.size, 0, none⟩) 1 1 [1] := ob_one W 1
  have HO := Lib.hid O0
  have hd := nodeL_length a b
  have l1 := load32_run E1.drew
  have l2 := load32_run (E1.alloc (.cells #[.int .u8 1] 5)).drew
  have HS := Lib.hid (fun W Z cz (hz : 65 ≤ cz) (hr : RW W Z cz (1 :: (a ++ b))) => rsum_any W (1 :: (a ++ b)) Z cz (by rw [hl0]; exact hz) hB1 hr (by rw [hl0]; omega))
  rw [hl0] at HS
  rw [show sha (1 :: (a ++ b)) = nodeL a b from rfl] at HS
  have s1 := fun W => sl24 W (g + 1)
  have s2 := fun W => sl24 W (g + 1 + 1)
  clear E1 E2 E3 E4 B0 hA hB hB1 hl0 O0
  generalize nodeL a b = d at *
  go_enter Tryd.func76, Tryd.ntmps76
  go_wp2_with fail
  change Code.wp _ _ _ _ ((((w.alloc (.cells (u32s TT) 32)).alloc (.cells (u8s a) 24)).alloc (.cells (u8s b) 24)).alloc (.cells (u8s (zer 32)) 24))
  rw [← hW]
  have HG := Lib.hid hg
  clear hW hg
  go_region_law (first
    | (refine step_app8 (by rfl) (.tmp 8) (.tmp 9) (by rfl) W.heap.size (some ⟨W.heap.size, 0, none⟩) 1 1 [1] (by rfl) HO.out.drew (some ⟨g + 1, 0, none⟩) 32 32 a (by rfl) ha ((HE.out.2.1.alloc _).drew.rw) (by omega) (by simp) ?_; intro A1 c1 w1 O1 B1; have l3 := load32_run ((HE.out.1.alloc _).drew.below B1 HE.out.1.lt); have H1 := Lib.hid (And.intro O1 B1); clear O1 B1)
    | (refine step_app8 (by rfl) (.tmp 10) (.tmp 11) (by rfl) W.heap.size A1 33 c1 ([1] ++ a) (by rfl) H1.out.1 (some ⟨g + 1 + 1, 0, none⟩) 32 32 b (by rfl) hb (((HE.out.2.2.1.alloc _).drew.below H1.out.2 HE.out.2.2.1.lt).rw) (by omega) (Nat.le_trans (by simp) H1.out.2.size) ?_; intro A2 c2 w2 O2 B2; have l4 := load32_run (((HE.out.1.alloc _).drew.below H1.out.2 HE.out.1.lt).below B2 HE.out.1.lt); have H2 := Lib.hid (And.intro O2 (H1.out.2.trans B2)); clear O2 B2)
    | (rw [if_pos (by rfl)]; go_simp; go_at_call 21; refine (HS.out _ _ _ H2.out.1.cap_le H2.out.1.rw).mono ?_; rintro e w3 ⟨rfl, B3⟩; have E5 := ((HE.out.2.2.2.1.alloc _).drew.below H2.out.2 HE.out.2.2.2.1.lt).below B3 (((HE.out.2.2.2.1.alloc _).drew.below H2.out.2 HE.out.2.2.2.1.lt).lt); have s3 := store24_run E5 rfl hd; have H3 := Lib.hid (And.intro B3 E5); clear B3 E5))
  all_goals
    go_wp2_with fail
    have hgW : g ≤ W.heap.size := HE.out.2.2.2.2.size |> (HG.out ▸ ·)
    have hW1 : W.heap.size ≤ w2.heap.size := Nat.le_trans (by simp) H2.out.2.size
    refine bodyPost_ret (v := .agg (u8s d)) (results_cell_row rfl _ _ (g + 1 + 1 + 1) 24 _ (0, 0) _ rfl (H3.out.2.setRow _) Tryd.underlying24 rfl (size24 _ hd)) rfl ⟨rfl, ?_⟩
    rw [HG.out]
    exact below_setRow' (((HE.out.2.2.2.2.alloc hgW _).drew).trans ((H2.out.2.mono hgW).trans (H3.out.1.mono (Nat.le_trans hgW hW1)))) (by omega) _
end Go.Proofs.YtediocpdpghbfaaDoor
namespace Go.Proofs.YtediocpdpghbfaaDoor
open Go Go.RowKit

/-! ### plain -/
def splitGo : Nat → Nat → Nat → Nat
  | 0, k, _ => k
  | f + 1, k, n => if 2 * k < n then splitGo f (2 * k) n else k
def splitL (n : Nat) : Nat := splitGo n 1 n
theorem splitGo_bd : ∀ (f k n : Nat), 1 ≤ k → k < n → n ≤ k + f → k ≤ splitGo f k n ∧ splitGo f k n < n ∧ n ≤ 2 * splitGo f k n
  | 0, k, n, h1, h2, h3 => by omega
  | f + 1, k, n, h1, h2, h3 => by
    unfold splitGo
    by_cases h : 2 * k < n
    · rw [if_pos h]
      have := splitGo_bd f (2 * k) n (by omega) h (by omega)
      omega
    · rw [if_neg h]; omega
theorem splitL_bd (n : Nat) (h : 2 ≤ n) : 1 ≤ splitL n ∧ splitL n < n ∧ n ≤ 2 * splitL n := splitGo_bd n 1 n (Nat.le_refl _) (by omega) (by omega)
set_option maxRecDepth 100000 in
theorem msplit_any (n : Nat) (hn : n ≤ 1000000000) (w : World) : Calls Tryd.prog 78 #[.int .i64 n] w fun e w' => e = .returned (.int .i64 (splitL n : Nat)) ∧ w = w' := by
  obtain ⟨s, hs⟩ : ∃ s, splitL n = s := ⟨_, rfl⟩
  rw [hs]
  have HS := Lib.hid hs; clear hs
  go_enter Tryd.func78, Tryd.ntmps78
  go_wp2_with fail
  go_loopg [3] n (fun f kv wr => ∃ k : Nat, kv = .int .i64 k ∧ 1 ≤ k ∧ k ≤ n + 1 ∧ n ≤ k + f ∧ splitGo f k n = s ∧ w = wr)
  case atStart => exact ⟨1, rfl, Nat.le_refl _, by omega, by omega, HS.out, rfl⟩
  case round =>
    obtain ⟨k, rfl, h1, h2, h3, h4, rfl⟩ := hrel
    have H4 := Lib.hid h4; clear h4
    by_cases h : 2 * k < n
    · have t : decide (2 * (k : Int) < (n : Int)) = true := by simp; omega
      go_wp2_with fail
      obtain ⟨f, rfl⟩ : ∃ f, gk = f + 1 := ⟨gk - 1, by omega⟩
      go_roundg f
      case measure => omega
      case rel =>
        have h4 := H4.out
        unfold splitGo at h4
        rw [if_pos h] at h4
        exact ⟨2 * k, by go_num, by omega, by omega, by omega, h4, rfl⟩
    · have t : decide (2 * (k : Int) < (n : Int)) = false := by simp; omega
      go_wp2_with fail
      go_ret
      have h4 := H4.out
      refine ⟨?_, rfl⟩
      cases gk with
      | zero => unfold splitGo at h4; rw [← h4]; rfl
      | succ f => unfold splitGo at h4; rw [if_neg h] at h4; rw [← h4]; rfl
set_option maxRecDepth 100000 in
theorem rsplit_any (n : Nat) (hn : n ≤ 1000000000) (w : World) : Calls Tryd.prog 75 #[.int .i64 n] w fun e w' => e = .returned (.int .i64 (splitL n : Nat)) ∧ w = w' := by
  obtain ⟨s, hs⟩ : ∃ s, splitL n = s := ⟨_, rfl⟩
  rw [hs]
  have HS := Lib.hid hs; clear hs
  go_enter Tryd.func75, Tryd.ntmps75
  go_wp2_with fail
  go_loopg [3] n (fun f kv wr => ∃ k : Nat, kv = .int .i64 k ∧ 1 ≤ k ∧ k ≤ n + 1 ∧ n ≤ k + f ∧ splitGo f k n = s ∧ w = wr)
  case atStart => exact ⟨1, rfl, Nat.le_refl _, by omega, by omega, HS.out, rfl⟩
  case round =>
    obtain ⟨k, rfl, h1, h2, h3, h4, rfl⟩ := hrel
    have H4 := Lib.hid h4; clear h4
    by_cases h : 2 * k < n
    · have t : decide (2 * (k : Int) < (n : Int)) = true := by simp; omega
      go_wp2_with fail
      obtain ⟨f, rfl⟩ : ∃ f, gk = f + 1 := ⟨gk - 1, by omega⟩
      go_roundg f
      case measure => omega
      case rel =>
        have h4 := H4.out
        unfold splitGo at h4
        rw [if_pos h] at h4
        exact ⟨2 * k, by go_num, by omega, by omega, by omega, h4, rfl⟩
    · have t : decide (2 * (k : Int) < (n : Int)) = false := by simp; omega
      go_wp2_with fail
      go_ret
      have h4 := H4.out
      refine ⟨?_, rfl⟩
      cases gk with
      | zero => unfold splitGo at h4; rw [← h4]; rfl
      | succ f => unfold splitGo at h4; rw [if_neg h] at h4; rw [← h4]; rfl
end Go.Proofs.YtediocpdpghbfaaDoor
namespace Go.Proofs.YtediocpdpghbfaaDoor
open Go Go.RowKit

/-! ### plain -/
def mrootF : Nat → List (List Nat) → List Nat
  | 0, _ => sha []
  | f + 1, l => if l.length = 0 then sha [] else if l.length = 1 then leafL (l.getD 0 []) else nodeL (mrootF f (l.take (splitL l.length))) (mrootF f (l.drop (splitL l.length)))
def mrootL (l : List (List Nat)) : List Nat := mrootF l.length l
theorem mrootF_fuel : ∀ (f : Nat) (l : List (List Nat)), l.length ≤ f → mrootF f l = mrootL l := by
  intro f
  induction f using Nat.strongRecOn with
  | ind f ih =>
    intro l hl
    cases f with
    | zero =>
      have : l.length = 0 := by omega
      unfold mrootL; rw [this]
    | succ f =>
      unfold mrootL
      rcases Nat.lt_or_ge l.length 2 with h2 | h2
      · rcases Nat.eq_zero_or_pos l.length with h0 | h0
        · rw [h0]; unfold mrootF; rw [if_pos h0]
        · have h1 : l.length = 1 := by omega
          rw [h1]; unfold mrootF; rw [if_neg (by omega), if_pos h1, if_neg (by omega), if_pos h1]
      · obtain ⟨m, hm⟩ : ∃ m, l.length = m + 1 := ⟨l.length - 1, by omega⟩
        have hs := splitL_bd l.length h2
        rw [show mrootF l.length l = mrootF (m + 1) l by rw [hm]]
        unfold mrootF
        rw [if_neg (by omega), if_neg (by omega), if_neg (by omega), if_neg (by omega)]
        have t1 : (l.take (splitL l.length)).length ≤ m := by rw [List.length_take]; omega
        have t2 : (l.drop (splitL l.length)).length ≤ m := by rw [List.length_drop]; omega
        rw [ih f (by omega) _ (by omega), ih f (by omega) _ (by omega)]
        have hmf : m < f + 1 := by omega
        rw [ih m hmf _ t1, ih m hmf _ t2]
theorem mrootL_node (l : List (List Nat)) (h : 2 ≤ l.length) : mrootL l = nodeL (mrootL (l.take (splitL l.length))) (mrootL (l.drop (splitL l.length))) := by
  obtain ⟨m, hm⟩ : ∃ m, l.length = m + 1 := ⟨l.length - 1, by omega⟩
  have hs := splitL_bd l.length h
  conv => lhs; unfold mrootL; rw [hm]; unfold mrootF
  rw [if_neg (by omega), if_neg (by omega), mrootF_fuel m _ (by rw [List.length_take]; omega), mrootF_fuel m _ (by rw [List.length_drop]; omega)]
theorem mrootL_zero (l : List (List Nat)) (h : l.length = 0) : mrootL l = sha [] := by unfold mrootL; rw [h]; rfl
theorem mrootL_one (l : List (List Nat)) (h : l.length = 1) : mrootL l = leafL (l.getD 0 []) := by unfold mrootL; rw [h]; unfold mrootF; rw [if_neg (by omega), if_pos h]
theorem mrootF_ok : ∀ (f : Nat) (l : List (List Nat)), (mrootF f l).length = 32 ∧ Bytes (mrootF f l)
  | 0, _ => ⟨sha_length _, sha_bytes _⟩
  | f + 1, l => by
    unfold mrootF
    split
    · exact ⟨sha_length _, sha_bytes _⟩
    · split <;> exact ⟨sha_length _, sha_bytes _⟩
theorem mrootL_length (l : List (List Nat)) : (mrootL l).length = 32 := (mrootF_ok _ _).1
theorem mrootL_bytes (l : List (List Nat)) : Bytes (mrootL l) := (mrootF_ok _ _).2

/-! ### slices of slices of bytes -/
def PL (w : World) (A : Option Addr) (ps : List (List Nat)) : Prop :=
  ps = [] ∨ ∃ g off, A = some ⟨g, off, none⟩ ∧ g < w.heap.size ∧ ∀ j, j < ps.length → ∃ Aj cj, w.cell? ⟨g, off + j, none⟩ = some (.slice Aj (ps.getD j []).length cj) ∧ (ps.getD j []).length ≤ cj ∧ (ps.getD j []).length ≤ 1000 ∧ Bytes (ps.getD j []) ∧ RW w Aj cj (ps.getD j [])
theorem PL.below {w w' : World} {A : Option Addr} {ps : List (List Nat)} (h : PL w A ps) (hb : Below w.heap.size w w') : PL w' A ps := by
  rcases h with h | ⟨g, off, hA, hg, hc⟩
  · exact .inl h
  · refine .inr ⟨g, off, hA, Nat.lt_of_lt_of_le hg hb.size, fun j hj => ?_⟩
    obtain ⟨Aj, cj, c1, c2, c3, c4, c5⟩ := hc j hj
    exact ⟨Aj, cj, (hb.cell (p := ⟨g, off + j, none⟩) hg).trans c1, c2, c3, c4, c5.below hb⟩
theorem getD_take {ps : List (List Nat)} {k j : Nat} (h : j < k) : (ps.take k).getD j [] = ps.getD j [] := by
  simp [List.getD_eq_getElem?_getD, List.getElem?_take, h]
theorem getD_drop {ps : List (List Nat)} {k j : Nat} : (ps.drop k).getD j [] = ps.getD (k + j) [] := by
  simp [List.getD_eq_getElem?_getD, List.getElem?_drop]
theorem PL.take {w : World} {A : Option Addr} {ps : List (List Nat)} (h : PL w A ps) (k : Nat) : PL w A (ps.take k) := by
  rcases h with h | ⟨g, off, hA, hg, hc⟩
  · left; rw [h]; simp
  · refine .inr ⟨g, off, hA, hg, fun j hj => ?_⟩
    rw [List.length_take] at hj
    rw [getD_take (by omega)]
    exact hc j (by omega)
theorem PL.drop {w : World} {g off : Nat} {ps : List (List Nat)} (h : PL w (some ⟨g, off, none⟩) ps) (k : Nat) : PL w (some ⟨g, off + k, none⟩) (ps.drop k) := by
  rcases h with h | ⟨g', off', hA, hg, hc⟩
  · left; rw [h]; simp
  · injection hA with hA
    injection hA with e1 e2
    subst e1; subst e2
    refine .inr ⟨g, off + k, rfl, hg, fun j hj => ?_⟩
    rw [List.length_drop] at hj
    rw [getD_drop, Nat.add_assoc]
    exact hc (k + j) (by omega)
theorem size22 : (Tryd.prog.info? 22).map (·.size) = some 1 := by kernel_rfl
theorem elem41 : Tryd.prog.elem 41 = 22 := by kernel_rfl
theorem sl41_h (g off n cap k : Nat) (hk : k ≤ cap) (w : World) :
    (Instr.sliceAt 41 (.slice (some ⟨g, off, none⟩) n cap) none (some (.int .i64 (k : Int))) none).run Tryd.prog w = .ok (.slice (some ⟨g, off, none⟩) k cap) w := by
  have hs := size22
  rw [run_sliceAt_slice w 41 _ _ _ _ (by rw [elem41]; exact Tryd.underlying41), run_slice_h w 41 _ n cap (by rw [elem41]; exact Tryd.underlying41) .i64 k (by omega) (by omega)]
  cases hq : Tryd.prog.info? 22 with
  | none => simp [hq] at hs
  | some i =>
    have hi : i.size = 1 := by simpa [hq] using hs
    simp [elem41, sizeOf, typeInfo, hq, hi, sliced, addr_add]
theorem sl41_l (g off n cap k : Nat) (hk : k < n) (hn : n ≤ cap) (w : World) :
    (Instr.sliceAt 41 (.slice (some ⟨g, off, none⟩) n cap) (some (.int .i64 (k : Int))) none none).run Tryd.prog w = .ok (.slice (some ⟨g, off + k, none⟩) (n - k) (cap - k)) w := by
  have hs := size22
  rw [run_sliceAt_slice w 41 _ _ _ _ (by rw [elem41]; exact Tryd.underlying41), run_slice_l w 41 _ n cap (by rw [elem41]; exact Tryd.underlying41) .i64 k (by omega) (by omega)]
  cases hq : Tryd.prog.info? 22 with
  | none => simp [hq] at hs
  | some i =>
    have hi : i.size = 1 := by simpa [hq] using hs
    have hne : ¬ cap = k := by omega
    simp [elem41, sizeOf, typeInfo, hq, hi, sliced, addr_add, hne]

/-! ### rootOf -/
attribute [local go_sem ↓] ld25 st25 ld24 st24 ld32
theorem store25_run {w : World} {S : Nat} {d d' : List Nat} (h : Blk w S 25 (u8s d)) (hl : d.length = 32) (hl' : d'.length = 32) :
    (storeAgg 25 (.pointer (some ⟨S, 0, none⟩)) (.agg (u8s d'))).run Tryd.prog w = .ok () (w.setRow S (u8s d')) := by
  have := storeAgg_run (P := Tryd.prog) (ty := 25) (off := 0) (cur := (u8s d).toList) (u8s d') (by rw [Array.toArray_toList]; exact h) (size25 d' hl') (by rw [u8s_size, hl', Array.length_toList, u8s_size, hl]; omega) (u8s_one _)
  rw [this, List.drop_eq_nil_of_le (by rw [Array.length_toList, u8s_size, u8s_size, hl, hl']; omega), List.take_zero, List.nil_append, List.append_nil, Array.toArray_toList]
theorem rw_nil (w : World) : RW w none 0 [] := ⟨fun _ => ⟨rfl, rfl⟩, fun _ h => by cases h⟩
/-- what a call that returns a digest in a fresh variable comes to -/
theorem dig_ret {fn : Func} {a : Act} {w W : World} {p : Tmp} {d : List Nat} (h : fn.results = #[.cell p 25]) (hd : d.length = 32) (hp : a.tmps.getD p undef = .pointer (some ⟨w.heap.size, 0, none⟩)) (hdf : a.defers = [])
    (hE : Blk W w.heap.size 25 (u8s (zer 32))) (hB : Below w.heap.size w W) : bodyPost Tryd.prog fn (fun e w' => e = .returned (.agg (u8s d)) ∧ Below w.heap.size w w') .ret a (W.setRow w.heap.size (u8s d)) :=
  bodyPost_ret (v := .agg (u8s d)) (results_cell_row h _ _ w.heap.size 25 _ (0, 0) _ hp (hE.setRow _) Tryd.underlying25 rfl (size25 _ hd)) hdf ⟨rfl, below_setRow' hB (Nat.le_refl _) _⟩
set_option maxRecDepth 100000 in
set_option maxHeartbeats 2000000 in
theorem rootof_any : ∀ (n : Nat) (ps : List (List Nat)) (w : World) (A : Option Addr) (cap : Nat), ps.length = n → n ≤ 100000 → n ≤ cap → cap ≤ 9223372036854775807 → Tabs w → PL w A ps →
    Calls Tryd.prog 74 #[.slice A n cap] w fun e w' => e = .returned (.agg (u8s (mrootL ps))) ∧ Below w.heap.size w w' := by
  intro n
  induction n using Nat.strongRecOn with
  | ind n ih =>
    intro ps w A cap hl hn hcap hcm hT hP
    have IH := Lib.hid ih
    clear ih
    have E0 := Blk.new w 25 (u8s (zer 32))
    have B0 := (Below.refl w.heap.size w).alloc (Nat.le_refl _) (.cells (u8s (zer 32)) 25)
    have S0 : At w (w.alloc (.cells (u8s (zer 32)) 25)) := ⟨hT, B0⟩
    have HE := Lib.hid (And.intro E0 (And.intro S0 hP))
    have hd := mrootL_length ps
    have two := hT.two
    rcases Nat.lt_or_ge n 2 with h2 | h2
    · rcases Nat.eq_zero_or_pos n with h0 | h0
      · subst h0
        have hr : mrootL ps = sha [] := mrootL_zero ps hl
        have HS := Lib.hid (fun W (hT : Tabs W) => sum_any W hT [] none 0 (by simp) Bytes.nil ((rw_nil W).rb (Nat.le_refl _)) (by simp))
        rw [← hr] at HS
        clear hr E0 B0 S0 hP hT hl
        generalize mrootL ps = d at *
        go_enter Tryd.func74, Tryd.ntmps74
        go_wp2_with fail
        refine (HS.out _ HE.out.2.1.t).mono ?_
        rintro e w1 ⟨rfl, B1⟩
        have H1 := Lib.hid (And.intro (HE.out.1.below B1 HE.out.1.lt) (HE.out.2.1.step B1))
        have s1 := store25_run H1.out.1 rfl hd
        clear B1
        go_wp2_with fail
        exact dig_ret rfl hd rfl rfl H1.out.1 H1.out.2.b
      · obtain rfl : n = 1 := by omega
        have hr : mrootL ps = leafL (ps.getD 0 []) := mrootL_one ps hl
        rcases hP with hnil | ⟨g, off, rfl, hg, hc⟩
        · rw [hnil] at hl; simp at hl
        obtain ⟨Aj, cj, c1, c2, c3, c4, c5⟩ := hc 0 (by omega)
        rw [Nat.add_zero] at c1
        obtain ⟨x, hx⟩ : ∃ x, (ps.getD 0 []).length = x := ⟨_, rfl⟩
        rw [hx] at c1 c2 c3
        have HS := Lib.hid (fun W (s : At w W) => leafhash_any W s.t (ps.getD 0 []) Aj x cj hx c2 (by omega) c4 (c5.below s.b))
        rw [← hr] at HS
        have d1 := (S0.b.cell (p := ⟨g, off, none⟩) hg).trans c1
        clear hr E0 B0 S0 hT hl hc d1 c2 c3 c4 c5 hx
        generalize mrootL ps = d at *
        go_enter Tryd.func74, Tryd.ntmps74
        go_wp2_with fail
        refine (HS.out _ HE.out.2.1).mono ?_
        rintro e w1 ⟨rfl, B1⟩
        have H1 := Lib.hid (And.intro (HE.out.1.below B1 HE.out.1.lt) (HE.out.2.1.step B1))
        have s1 := store25_run H1.out.1 rfl hd
        clear B1 c1
        go_wp2_with fail
        exact dig_ret rfl hd rfl rfl H1.out.1 H1.out.2.b
    · have hk := splitL_bd n h2
      have hr : mrootL ps = nodeL (mrootL (ps.take (splitL n))) (mrootL (ps.drop (splitL n))) := by rw [← hl]; exact mrootL_node ps (by omega)
      have HK := Lib.hid (fun W => msplit_any n (by omega) W)
      generalize splitL n = k at *
      rcases hP with hnil | ⟨g, off, rfl, hg, hc⟩
      · rw [hnil] at hl; simp at hl; omega
      have hP : PL w (some ⟨g, off, none⟩) ps := .inr ⟨g, off, rfl, hg, hc⟩
      have h1 := fun W (s : At w W) => IH.out k (by omega) (ps.take k) W (some ⟨g, off, none⟩) cap (by rw [List.length_take]; omega) (by omega) (by omega) hcm s.t ((hP.below s.b).take k)
      have h2' := fun W (s : At w W) => IH.out (n - k) (by omega) (ps.drop k) W (some ⟨g, off + k, none⟩) (cap - k) (by rw [List.length_drop]; omega) (by omega) (by omega) (by omega) s.t ((hP.below s.b).drop k)
      have h3 := fun W (s : At w W) => nodehash_any W s.t (mrootL (ps.take k)) (mrootL (ps.drop k)) (mrootL_length _) (mrootL_length _) (mrootL_bytes _) (mrootL_bytes _)
      rw [← hr] at h3
      have H1 := Lib.hid (And.intro h1 (And.intro h2' h3))
      clear h1 h2' h3 hr hP hc E0 B0 S0 hT hl
      generalize mrootL (ps.take k) = da at *
      generalize mrootL (ps.drop k) = db at *
      generalize mrootL ps = d at *
      have s1 := fun W => sl41_h g off n cap k (by omega) W
      have s2 := fun W => sl41_l g off n cap k (by omega) hcap W
      have t0 : ((n : Int) == 0) = false := by rw [beq_eq_false_iff_ne]; omega
      have t1 : ((n : Int) == 1) = false := by rw [beq_eq_false_iff_ne]; omega
      go_enter Tryd.func74, Tryd.ntmps74
      go_wp2_with fail
      refine (HK.out _).mono ?_
      rintro e w1 ⟨rfl, rfl⟩
      go_wp2_with fail
      refine wp_region_sego [0, 0, 0, 1, 0, 0, 0, 3, 5, 7] [false, true, true, true] (by kernel_rfl) (by kernel_rfl) (fun _ _ d _ _ h => by cases d <;> exact h) (sego_go fun K0 hK0 => ?_)
      simp only [pickC, ↓reduceIte, Nat.reduceEqDiff, Nat.reduceAdd]
      go_wp2_with fail
      refine hK0.out _ (sego_act fun K2 hK2 => ?_)
      clear hK0 K0
      simp only [pickC, ↓reduceIte, Nat.reduceEqDiff, Nat.reduceAdd]
      go_wp2_with fail
      refine (H1.out.1 _ HE.out.2.1.drew).mono ?_
      rintro e w2 ⟨rfl, B2⟩
      have H2 := Lib.hid (And.intro (HE.out.1.drew.below B2 HE.out.1.drew.lt) (HE.out.2.1.drew.step B2))
      go_wp2_with fail
      refine hK2.out _ _ B2 (sego_last fun K0 hK0 => ?_)
      clear hK2 K2 B2
      simp only [pickC, ↓reduceIte, Nat.reduceEqDiff, Nat.reduceAdd]
      go_wp2_with fail
      refine hK0.out _ (sego_do fun K2 hK2 => ?_)
      clear hK0 K0
      simp only [pickC, ↓reduceIte, Nat.reduceEqDiff, Nat.reduceAdd]
      go_wp2_with fail
      refine (H1.out.2.1 _ H2.out.2).mono ?_
      rintro e w3 ⟨rfl, B3⟩
      have H3 := Lib.hid (And.intro (H2.out.1.below B3 H2.out.1.lt) (H2.out.2.step B3))
      clear B3
      go_wp2_with fail
      refine hK2.out _ _ (sego_last fun K0 hK0 => ?_)
      clear hK2 K2
      simp only [pickC, ↓reduceIte, Nat.reduceEqDiff, Nat.reduceAdd]
      go_wp2_with fail
      refine hK0.out _ (sego_do fun K2 hK2 => ?_)
      clear hK0 K0
      simp only [pickC, ↓reduceIte, Nat.reduceEqDiff, Nat.reduceAdd]
      go_wp2_with fail
      refine (H1.out.2.2 _ H3.out.2).mono ?_
      rintro e w4 ⟨rfl, B4⟩
      have H4 := Lib.hid (And.intro (H3.out.1.below B4 H3.out.1.lt) (H3.out.2.step B4))
      clear B4
      have s4 := store25_run H4.out.1 rfl hd
      go_wp2_with fail
      refine hK2.out _ _ (sego_last fun K0 hK0 => ?_)
      clear hK2 K2
      simp only [pickC, ↓reduceIte, Nat.reduceEqDiff, Nat.reduceAdd]
      go_wp2_with fail
      refine hK0.out _ (sego_do fun K2 hK2 => ?_)
      clear hK0 K0
      simp only [pickC, ↓reduceIte, Nat.reduceEqDiff, Nat.reduceAdd]
      go_wp2_with fail
      refine hK2.out _ _ (sego_end fun K0 hK0 => ?_)
      clear hK2 K2
      simp only [pickC, ↓reduceIte, Nat.reduceEqDiff, Nat.reduceAdd]
      go_wp2_with fail
      refine hK0.out _ ?_
      clear hK0 K0
      go_wp2_with fail
      exact dig_ret rfl hd rfl rfl H4.out.1 H4.out.2.b
end Go.Proofs.YtediocpdpghbfaaDoor
namespace Go.Proofs.YtediocpdpghbfaaDoor
open Go Go.RowKit

theorem results_cell25_2 {P : Program} {fn : Func} {p u : Tmp} {ty : TypeId} (h : fn.results = #[.cell p ty, .tmp u]) (tmps : Array Value) (w : World) (g : Nat) (t : TypeId) (cs : Array Value) (fr : Nat × Nat) (d : TypeDesc)
    (hp : tmps.getD p undef = .pointer (some ⟨g, 0, none⟩)) (hg : w.heap[g]? = some (.cells cs t fr))
    (hu : P.underlying ty = some d) (hd : (match d with | .struct _ | .array _ _ => true | _ => false) = true) (hi : (P.info? ty).map (·.size) = some cs.size) :
    (results fn tmps).run P w = .ok (.tuple #[.agg cs, tmps.getD u undef]) w := by
  have hp' : tmps[p]?.getD undef = .pointer (some ⟨g, 0, none⟩) := by simpa using hp
  simp [results, h, hp', asAddr, run_loadVar_row w g t ty cs fr d hg hu hd hi]
attribute [local go_sem ↓] ld25 st25 ld24 st24 ld32
set_option maxRecDepth 100000 in
set_option maxHeartbeats 1000000 in
theorem mroot_any (n : Nat) (ps : List (List Nat)) (w : World) (A : Option Addr) (cap : Nat) (hl : ps.length = n) (hn : n ≤ 65536) (hcap : n ≤ cap) (hcm : cap ≤ 9223372036854775807) (hT : Tabs w) (hP : PL w A ps) :
    Calls Tryd.prog 44 #[.slice A n cap] w fun e w' => e = .returned (.tuple #[.agg (u8s (mrootL ps)), .int .i64 0]) ∧ Below w.heap.size w w' := by
  have E0 := Blk.new w 25 (u8s (zer 32))
  have S0 : At w (w.alloc (.cells (u8s (zer 32)) 25)) := ⟨hT, (Below.refl _ _).alloc (Nat.le_refl _) _⟩
  have HS := Lib.hid (rootof_any n ps (w.alloc (.cells (u8s (zer 32)) 25)) A cap hl (by omega) hcap hcm S0.t (hP.below ((Below.refl _ _).alloc (Nat.le_refl _) _)))
  have HE := Lib.hid (And.intro E0 S0)
  have hd := mrootL_length ps
  clear E0 S0 hP hT hl
  generalize mrootL ps = d at *
  go_enter Tryd.func44, Tryd.ntmps44
  go_wp2_with fail
  refine HS.out.mono ?_
  rintro e w1 ⟨rfl, B1⟩
  have H1 := Lib.hid (And.intro (HE.out.1.below B1 HE.out.1.lt) (HE.out.2.step B1))
  have s1 := store25_run H1.out.1 rfl hd
  clear B1
  go_wp2_with fail
  exact bodyPost_ret (v := .tuple #[.agg (u8s d), .int .i64 0]) (results_cell25_2 (p := 2) (u := 3) rfl _ _ w.heap.size 25 _ (0, 0) _ rfl (H1.out.1.setRow _) Tryd.underlying25 rfl (size25 _ hd)) rfl ⟨rfl, below_setRow' H1.out.2.b (Nat.le_refl _) _⟩

/-- what a call of the reference's that returns a digest in a fresh variable comes to -/
theorem dig24_ret {fn : Func} {a : Act} {w W : World} {g : Nat} {p : Tmp} {d : List Nat} (h : fn.results = #[.cell p 24]) (hd : d.length = 32) (hp : a.tmps.getD p undef = .pointer (some ⟨g, 0, none⟩)) (hdf : a.defers = [])
    (hE : Blk W g 24 (u8s (zer 32))) (hg : w.heap.size ≤ g) (hB : Below w.heap.size w W) : bodyPost Tryd.prog fn (fun e w' => e = .returned (.agg (u8s d)) ∧ Below w.heap.size w w') .ret a (W.setRow g (u8s d)) :=
  bodyPost_ret (v := .agg (u8s d)) (results_cell_row h _ _ g 24 _ (0, 0) _ hp (hE.setRow _) Tryd.underlying24 rfl (size24 _ hd)) hdf ⟨rfl, below_setRow' hB hg _⟩
set_option maxRecDepth 100000 in
set_option maxHeartbeats 2000000 in
theorem rroot_any : ∀ (n : Nat) (ps : List (List Nat)) (w : World) (A : Option Addr) (cap : Nat), ps.length = n → n ≤ 100000 → n ≤ cap → cap ≤ 9223372036854775807 → PL w A ps →
    Calls Tryd.prog 45 #[.agg (u32s TT), .slice A n cap] w fun e w' => e = .returned (.agg (u8s (mrootL ps))) ∧ Below w.heap.size w w' := by
  intro n
  induction n using Nat.strongRecOn with
  | ind n ih =>
    intro ps w A cap hl hn hcap hcm hP
    have IH := Lib.hid ih
    clear ih
    obtain ⟨W, hW⟩ : ∃ W, W = (w.alloc (.cells (u32s TT) 32)).alloc (.cells (u8s (zer 32)) 24) := ⟨_, rfl⟩
    have E1 : Blk W w.heap.size 32 (u32s TT) := by rw [hW]; exact (Blk.new _ _ _).alloc _
    have E2 : Blk W (w.heap.size + 1) 24 (u8s (zer 32)) := by rw [hW]; exact Blk.new1 _ _ _ _
    have B0 : Below w.heap.size w W := by rw [hW]; exact ((Below.refl _ _).alloc (Nat.le_refl _) _).alloc (by simp) _
    have HE := Lib.hid (And.intro E1 (And.intro E2 B0))
    have l1 := load32_run E1.drew
    have l0 := load32_run E1
    have hd := mrootL_length ps
    rcases Nat.lt_or_ge n 2 with h2 | h2
    · rcases Nat.eq_zero_or_pos n with h0 | h0
      · subst h0
        have hr : mrootL ps = sha [] := mrootL_zero ps hl
        have HS := Lib.hid (fun W => rsum_any W [] none 0 (by simp) Bytes.nil (rw_nil W) (by simp))
        rw [← hr] at HS
        clear hr E1 E2 B0 hP hl
        generalize mrootL ps = d at *
        go_enter Tryd.func45, Tryd.ntmps45
        go_wp2_with (refine wpList_load_row rfl 32 (.tmp 2) rfl w.heap.size rfl 32 (u32s TT) (0, 0) _ (hW ▸ HE.out.1) Tryd.underlying32 rfl (by kernel_rfl) ?_)
        change Calls _ _ _ ((w.alloc (.cells (u32s TT) 32)).alloc (.cells (u8s (zer 32)) 24)) _
        rw [← hW]
        clear hW l1 l0
        refine (HS.out _).mono ?_
        rintro e w1 ⟨rfl, B1⟩
        have H1 := Lib.hid (And.intro (HE.out.2.1.below B1 HE.out.2.1.lt) (HE.out.2.2.trans (B1.mono HE.out.2.2.size)))
        have s1 := store24_run H1.out.1 rfl hd
        clear B1
        go_wp2_with fail
        exact dig24_ret rfl hd rfl rfl H1.out.1 (by omega) H1.out.2
      · obtain rfl : n = 1 := by omega
        have hr : mrootL ps = leafL (ps.getD 0 []) := mrootL_one ps hl
        rcases hP with hnil | ⟨g, off, rfl, hg, hc⟩
        · rw [hnil] at hl; simp at hl
        obtain ⟨Aj, cj, c1, c2, c3, c4, c5⟩ := hc 0 (by omega)
        rw [Nat.add_zero] at c1
        obtain ⟨x, hx⟩ : ∃ x, (ps.getD 0 []).length = x := ⟨_, rfl⟩
        rw [hx] at c1 c2 c3
        have HS := Lib.hid (fun W (s : Below w.heap.size w W) => rleaf_any W (ps.getD 0 []) Aj x cj hx c2 (by omega) c4 (c5.below s))
        rw [← hr] at HS
        have d1 := ((B0.drew).cell (p := ⟨g, off, none⟩) hg).trans c1
        clear hr E1 E2 B0 hl hc c1 c2 c3 c4 c5 hx l0
        generalize mrootL ps = d at *
        go_enter Tryd.func45, Tryd.ntmps45
        go_wp2_with fail
        change Code.wp _ _ _ _ ((w.alloc (.cells (u32s TT) 32)).alloc (.cells (u8s (zer 32)) 24))
        rw [← hW]
        clear hW
        refine wp_region_sego [0, 0, 0, 0, 1, 3] [true, true] (by kernel_rfl) (by kernel_rfl) (fun _ _ d _ _ h => by cases d <;> exact h) (sego_last fun K0 hK0 => ?_)
        simp only [pickC, ↓reduceIte, Nat.reduceEqDiff, Nat.reduceAdd]
        go_wp2_with fail
        refine hK0.out _ (sego_do fun K2 hK2 => ?_)
        clear hK0 K0
        simp only [pickC, ↓reduceIte, Nat.reduceEqDiff, Nat.reduceAdd]
        go_wp2_with fail
        refine (HS.out _ HE.out.2.2.drew).mono ?_
        rintro e w1 ⟨rfl, B1⟩
        have H1 := Lib.hid (And.intro (HE.out.2.1.drew.below B1 HE.out.2.1.drew.lt) (HE.out.2.2.drew.trans (B1.mono HE.out.2.2.drew.size)))
        have s1 := store24_run H1.out.1 rfl hd
        clear B1 d1
        go_wp2_with fail
        refine hK2.out _ _ (sego_last fun K0 hK0 => ?_)
        clear hK2 K2
        simp only [pickC, ↓reduceIte, Nat.reduceEqDiff, Nat.reduceAdd]
        go_wp2_with fail
        refine hK0.out _ (sego_do fun K2 hK2 => ?_)
        clear hK0 K0
        simp only [pickC, ↓reduceIte, Nat.reduceEqDiff, Nat.reduceAdd]
        go_wp2_with fail
        refine hK2.out _ _ (sego_end fun K0 hK0 => ?_)
        clear hK2 K2
        simp only [pickC, ↓reduceIte, Nat.reduceEqDiff, Nat.reduceAdd]
        go_wp2_with fail
        refine hK0.out _ ?_
        clear hK0 K0
        go_wp2_with fail
        exact dig24_ret rfl hd rfl rfl H1.out.1 (by omega) H1.out.2
    · have hk := splitL_bd n h2
      have hr : mrootL ps = nodeL (mrootL (ps.take (splitL n))) (mrootL (ps.drop (splitL n))) := by rw [← hl]; exact mrootL_node ps (by omega)
      have HK := Lib.hid (fun W => rsplit_any n (by omega) W)
      generalize splitL n = k at *
      rcases hP with hnil | ⟨g, off, rfl, hg, hc⟩
      · rw [hnil] at hl; simp at hl; omega
      have hP : PL w (some ⟨g, off, none⟩) ps := .inr ⟨g, off, rfl, hg, hc⟩
      have h1 := fun W (s : Below w.heap.size w W) => IH.out k (by omega) (ps.take k) W (some ⟨g, off, none⟩) cap (by rw [List.length_take]; omega) (by omega) (by omega) hcm ((hP.below s).take k)
      have h2' := fun W (s : Below w.heap.size w W) => IH.out (n - k) (by omega) (ps.drop k) W (some ⟨g, off + k, none⟩) (cap - k) (by rw [List.length_drop]; omega) (by omega) (by omega) (by omega) ((hP.below s).drop k)
      have h3 := fun W => rnode_any W (mrootL (ps.take k)) (mrootL (ps.drop k)) (mrootL_length _) (mrootL_length _) (mrootL_bytes _) (mrootL_bytes _)
      rw [← hr] at h3
      have H1 := Lib.hid (And.intro h1 (And.intro h2' h3))
      clear h1 h2' h3 hr hP hc E1 E2 B0 hl l0
      generalize mrootL (ps.take k) = da at *
      generalize mrootL (ps.drop k) = db at *
      generalize mrootL ps = d at *
      have s1 := fun W => sl41_h g off n cap k (by omega) W
      have s2 := fun W => sl41_l g off n cap k (by omega) hcap W
      have t0 : ((n : Int) == 0) = false := by rw [beq_eq_false_iff_ne]; omega
      have t1 : ((n : Int) == 1) = false := by rw [beq_eq_false_iff_ne]; omega
      go_enter Tryd.func45, Tryd.ntmps45
      go_wp2_with fail
      change Calls _ _ _ ((w.alloc (.cells (u32s TT) 32)).alloc (.cells (u8s (zer 32)) 24)) _
      rw [← hW]
      clear hW
      refine (HK.out _).mono ?_
      rintro e w1 ⟨rfl, rfl⟩
      go_wp2_with fail
      refine wp_region_sego [0, 0, 0, 0, 0, 1, 0, 0, 0, 0, 3, 5, 7] [false, false, true, true] (by kernel_rfl) (by kernel_rfl) (fun _ _ d _ _ h => by cases d <;> exact h) (sego_go fun K0 hK0 => ?_)
      simp only [pickC, ↓reduceIte, Nat.reduceEqDiff, Nat.reduceAdd]
      go_wp2_with fail
      refine hK0.out _ (sego_act fun K2 hK2 => ?_)
      clear hK0 K0
      simp only [pickC, ↓reduceIte, Nat.reduceEqDiff, Nat.reduceAdd]
      go_wp2_with fail
      refine (H1.out.1 _ HE.out.2.2.drew).mono ?_
      rintro e w2 ⟨rfl, hBelow⟩
      have l2 := load32_run (HE.out.1.drew.below hBelow HE.out.1.drew.lt)
      have H2 := Lib.hid (And.intro (HE.out.2.1.drew.below hBelow HE.out.2.1.drew.lt) (HE.out.2.2.drew.trans (hBelow.mono HE.out.2.2.drew.size)))
      go_wp2_with fail
      refine hK2.out _ _ hBelow (sego_go fun K0 hK0 => ?_)
      clear hK2 K2 hBelow
      simp only [pickC, ↓reduceIte, Nat.reduceEqDiff, Nat.reduceAdd]
      go_wp2_with fail
      refine hK0.out _ (sego_act fun K2 hK2 => ?_)
      clear hK0 K0
      simp only [pickC, ↓reduceIte, Nat.reduceEqDiff, Nat.reduceAdd]
      go_wp2_with fail
      refine (H1.out.2.1 _ H2.out.2).mono ?_
      rintro e w3 ⟨rfl, hBelow⟩
      have H3 := Lib.hid (And.intro (H2.out.1.below hBelow H2.out.1.lt) (H2.out.2.trans (hBelow.mono H2.out.2.size)))
      go_wp2_with fail
      refine hK2.out _ _ hBelow (sego_last fun K0 hK0 => ?_)
      clear hK2 K2 hBelow
      simp only [pickC, ↓reduceIte, Nat.reduceEqDiff, Nat.reduceAdd]
      go_wp2_with fail
      refine hK0.out _ (sego_do fun K2 hK2 => ?_)
      clear hK0 K0
      simp only [pickC, ↓reduceIte, Nat.reduceEqDiff, Nat.reduceAdd]
      go_wp2_with fail
      refine (H1.out.2.2 _).mono ?_
      rintro e w4 ⟨rfl, B4⟩
      have H4 := Lib.hid (And.intro (H3.out.1.below B4 H3.out.1.lt) (H3.out.2.trans (B4.mono H3.out.2.size)))
      clear B4
      have s4 := store24_run H4.out.1 rfl hd
      go_wp2_with fail
      refine hK2.out _ _ (sego_last fun K0 hK0 => ?_)
      clear hK2 K2
      simp only [pickC, ↓reduceIte, Nat.reduceEqDiff, Nat.reduceAdd]
      go_wp2_with fail
      refine hK0.out _ (sego_do fun K2 hK2 => ?_)
      clear hK0 K0
      simp only [pickC, ↓reduceIte, Nat.reduceEqDiff, Nat.reduceAdd]
      go_wp2_with fail
      refine hK2.out _ _ (sego_end fun K0 hK0 => ?_)
      clear hK2 K2
      simp only [pickC, ↓reduceIte, Nat.reduceEqDiff, Nat.reduceAdd]
      go_wp2_with fail
      refine hK0.out _ ?_
      clear hK0 K0
      go_wp2_with fail
      exact dig24_ret rfl hd rfl rfl H4.out.1 (by omega) H4.out.2
end Go.Proofs.YtediocpdpghbfaaDoor
namespace Go.Proofs.YtediocpdpghbfaaDoor
open Go Go.RowKit

theorem info25 : (Tryd.prog.info? 25).map (fun i => (i.zero, i.size, i.bytes)) = some (some (.agg (u8s (zer 32))), 32, 32) := by kernel_rfl
/-- digests: each 32 bytes -/
def Digs (hs : List (List Nat)) : Prop := ∀ h ∈ hs, h.length = 32 ∧ Bytes h
theorem Digs.nil : Digs [] := fun _ h => by cases h
theorem Digs.snoc {hs : List (List Nat)} {d : List Nat} (h : Digs hs) (hd : d.length = 32) (hB : Bytes d) : Digs (hs ++ [d]) := fun x hx => by
  rcases List.mem_append.1 hx with hx | hx
  · exact h x hx
  · obtain rfl : x = d := by simpa using hx
    exact ⟨hd, hB⟩
theorem Digs.append {a b : List (List Nat)} (h : Digs a) (k : Digs b) : Digs (a ++ b) := fun x hx => by
  rcases List.mem_append.1 hx with hx | hx
  · exact h x hx
  · exact k x hx
def hcell (hs : List (List Nat)) : List Value := hs.flatMap bvals
/-- a slice value of the call's own that holds the digests hs -/
def OH (w : World) (base : Nat) (A : Option Addr) (n cap : Nat) (hs : List (List Nat)) : Prop := hs.length = n ∧ Digs hs ∧ w.ownsRow base 25 32 (.slice A n cap) n (hcell hs)
theorem oh_nil (w : World) (base : Nat) : OH w base none 0 0 [] := ⟨rfl, Digs.nil, rfl, .inl ⟨rfl, rfl⟩⟩
theorem OH.below {w w' : World} {base : Nat} {A : Option Addr} {n cap : Nat} {hs : List (List Nat)} (h : OH w base A n cap hs) (hb : Below w.heap.size w w') : OH w' base A n cap hs := by
  refine ⟨h.1, h.2.1, h.2.2.1, ?_⟩
  rcases h.2.2.2 with h2 | ⟨k, cap', cur, hv, hk, hh, h3, h4, h5, h6⟩
  · exact .inl h2
  · exact .inr ⟨k, cap', cur, hv, hk, (hb.block k (Array.getElem?_eq_some_iff.1 hh).1).trans hh, h3, h4, h5, h6⟩
theorem OH.drew {w : World} {base : Nat} {A : Option Addr} {n cap : Nat} {hs : List (List Nat)} (h : OH w base A n cap hs) : OH w.drew base A n cap hs := h.below ((Below.refl _ _).drew)
theorem OH.setCell {w : World} {base : Nat} {A : Option Addr} {n cap : Nat} {hs : List (List Nat)} (h : OH w base A n cap hs) {p : Addr} (hp : p.block < base) (u : Value) : OH (w.setCell p u) base A n cap hs := by
  refine ⟨h.1, h.2.1, h.2.2.1, ?_⟩
  rcases h.2.2.2 with h2 | ⟨k, cap', cur, hv, hk, hh, h3, h4, h5, h6⟩
  · exact .inl h2
  · exact .inr ⟨k, cap', cur, hv, hk, (Below.heap_setCell w p u k (by omega)).trans hh, h3, h4, h5, h6⟩
theorem OH.cap_le {w : World} {base : Nat} {A : Option Addr} {n cap : Nat} {hs : List (List Nat)} (h : OH w base A n cap hs) : n ≤ cap ∧ cap ≤ maxLen := by
  rcases h.2.2.2 with ⟨hv, hn⟩ | ⟨g, cap', cur, hv, _, _, hle, hm, _⟩
  · injection hv with _ e2 e3; unfold maxLen; omega
  · injection hv with _ _ e3; omega
theorem hcell_length (hs : List (List Nat)) (h : Digs hs) : (hcell hs).length = 32 * hs.length := by
  induction hs with
  | nil => rfl
  | cons a hs ih =>
    have h1 := (h a (List.mem_cons_self ..)).1
    have h2 := ih (fun x hx => h x (List.mem_cons_of_mem _ hx))
    unfold hcell at *
    rw [List.flatMap_cons, List.length_append, bvals_length, h1, h2, List.length_cons]; omega
theorem u8s_bvals (d : List Nat) : (u8s d).toList = bvals d := by simp [u8s, bvals]
/-- append(s, d) for one digest that was just laid into a block of its own -/
theorem wpList_apph {w : World} {ops : Array Oper} {rest : List Oper} {o : Oper} {a : Act} {Q : Exit → Act → World → Prop} (hgd : o.guard = none) (s x : Operand)
    (ho : o.op = .call { callee := .builtin .append, args := #[s, x], argTypes := #[67, 67] }) (base : Nat) (A : Option Addr) (n cap : Nat) (hs : List (List Nat)) (hsv : a.eval s = .slice A n cap) (hown : OH w base A n cap hs)
    (g : Nat) (d : List Nat) (hx : a.eval x = .slice (some ⟨g, 0, none⟩) 1 1) (hE : Blk w g 25 (u8s d)) (hd : d.length = 32) (hB : Bytes d) (hlen : n ≤ 1000000) (hbase : base ≤ w.heap.size)
    (h : ∀ A' cap' w', OH w' base A' (n + 1) cap' (hs ++ [d]) → Below base w w' → wpList Tryd.prog ops Q rest (a.put o.dst (.slice A' (n + 1) cap')) w') : wpList Tryd.prog ops Q (o :: rest) a w := by
  obtain ⟨i0, hi0, hz0, hz1, hz2⟩ := info_parts info25
  refine wpList_append_own _ hgd s x 67 ho base 25 i0 _ 32 32 Tryd.underlying67 hi0 hz0 hz1 hz2 rfl (by decide) (.slice A n cap) n (hcell hs) hsv hown.2.2 ⟨g, 0, none⟩ 1 1 (bvals d) hx (by rw [bvals_length, hd]) ?_ ?_
    (by unfold maxLen; omega) (by omega) hbase ?_
  · intro j u hj
    rw [addr_add, hE.cell, Nat.zero_add, ← hj, ← u8s_bvals]; simp
  · intro u hu; simp only [bvals, List.mem_map] at hu; obtain ⟨x, _, rfl⟩ := hu; rfl
  · intro v' w' hown' hg hnil
    obtain ⟨A', cap', rfl⟩ : ∃ A' cap', v' = .slice A' (n + 1) cap' := by
      rcases hown'.2 with ⟨rfl, hx⟩ | ⟨g, cap, cur, rfl, _⟩
      · exact ⟨none, 0, by rw [hx]⟩
      · exact ⟨_, cap, rfl⟩
    refine h A' cap' w' ⟨by rw [List.length_append, hown.1]; rfl, hown.2.1.snoc hd hB, ?_⟩ ((Below.refl _ _).grown hg hbase (fun k hk => (hown.2.2.lt k hk).1))
    have e : hcell (hs ++ [d]) = hcell hs ++ bvals d := by simp [hcell]
    rw [e]; exact hown'
/-! a slice of one digest, laid by a literal -/
def bs67 (ps : Array (Nat × Value)) : Sem Value := Instr.buildSlice 67 1 ps
theorem bs67_rule (ps : Array (Nat × Value)) : Instr.buildSlice 67 1 ps = bs67 ps := rfl
theorem bs67_run (d : List Nat) (hd : d.length = 32) (w : World) : (bs67 #[(0, .agg (u8s d))]).run Tryd.prog w = .ok (.slice (some ⟨w.heap.size, 0, none⟩) 1 1) (w.alloc (.cells (u8s d) 25)) := by
  obtain ⟨i0, hi0, hz0, hz1, hz2⟩ := info_parts info25
  have hsz : (Value.agg (u8s d)).cells.size = 32 := by simp [Value.cells, u8s_size, hd]
  have hone : ∀ v ∈ [Value.agg (u8s d)], v.cells.size = 32 := fun v hv => by
    obtain rfl : v = Value.agg (u8s d) := by simpa using hv
    exact hsz
  have hf := Go.Great.fill_whole (s := 32) (by omega) [Value.agg (u8s d)] ((Array.range (1 * 32)).map (fun j => (u8s (zer 32))[j % (u8s (zer 32)).size]!)) hone (by simp)
  have hc : ([Value.agg (u8s d)].flatMap fun v => v.cells.toList).toArray = u8s d := by simp [Value.cells]
  rw [hc] at hf
  have hl : (([Value.agg (u8s d)].zipIdx 0).map fun x => (x.2, x.1)) = [(0, Value.agg (u8s d))] := rfl
  rw [hl] at hf
  have hso : (sizeOf 25).run Tryd.prog w = .ok 32 w := by simp [sizeOf, typeInfo, hi0, hz1]
  have hzv : (zeroValue 25).run Tryd.prog w = .ok (.agg (u8s (zer 32))) w := by simp [zeroValue, typeInfo, hi0, hz0]
  have e1 : (Value.agg (u8s (zer 32))).cells = u8s (zer 32) := rfl
  unfold bs67 Instr.buildSlice
  simp only [Sem.run_bind, run_underlying Tryd.underlying67, Result.andThen_ok, hso]
  rw [if_neg (by omega)]
  rw [if_neg (by omega)]
  simp only [Sem.run_bind, hzv, Result.andThen_ok, Sem.run_pure, e1, hf]
  simp [newRow]
end Go.Proofs.YtediocpdpghbfaaDoor
namespace Go.Proofs.YtediocpdpghbfaaDoor
open Go Go.RowKit

/-- the digest while it is being written -/
def dgP (b : List Nat) (i : Nat) : List Nat := b.take i ++ zer (32 - i)
def digL (b : List Nat) : List Nat := dgP b (min b.length 32)
theorem dgP_length (b : List Nat) (i : Nat) (h : i ≤ b.length) (h2 : i ≤ 32) : (dgP b i).length = 32 := by
  unfold dgP; rw [List.length_append, zer_length, List.length_take]; omega
theorem digL_length (b : List Nat) : (digL b).length = 32 := dgP_length b _ (Nat.min_le_left ..) (Nat.min_le_right ..)
theorem zer_bytes (n : Nat) : Bytes (zer n) := Bytes.of_mem (by intro x hx; unfold zer at hx; have := List.eq_of_mem_replicate hx; omega)
theorem dgP_bytes (b : List Nat) (i : Nat) (hB : Bytes b) : Bytes (dgP b i) := Bytes.of_mem (by
  intro x hx
  unfold dgP at hx
  rcases List.mem_append.1 hx with h | h
  · exact hB.mem x (List.mem_of_mem_take h)
  · exact (zer_bytes _).mem x h)
theorem digL_bytes (b : List Nat) (hB : Bytes b) : Bytes (digL b) := dgP_bytes b _ hB
theorem dgP_set (b : List Nat) (i : Nat) (h : i < b.length) (h2 : i < 32) : (dgP b i).set i (b.getD i 0) = dgP b (i + 1) := by
  obtain ⟨j, hj⟩ : ∃ j, 32 - i = j + 1 := ⟨31 - i, by omega⟩
  unfold dgP
  rw [hj, show 32 - (i + 1) = j by omega, List.set_append_right _ _ (by simp; omega), List.take_succ_eq_append_getElem h]
  have e : i - (b.take i).length = 0 := by simp; omega
  have hb : b[i] = b.getD i 0 := by simp [List.getD_eq_getElem?_getD, List.getElem?_eq_getElem h]
  rw [e, hb]
  unfold zer
  rw [List.replicate_succ]
  generalize b.getD i 0 = x
  simp
attribute [local go_sem ↓] ld25 st25
set_option maxRecDepth 100000 in
set_option maxHeartbeats 2000000 in
theorem digest_any (w : World) (b : List Nat) (A : Option Addr) (n cap : Nat) (hn : b.length = n) (hcap : n ≤ cap) (hB : Bytes b) (hr : RW w A cap b) :
    Calls Tryd.prog 38 #[.slice A n cap] w fun e w' => e = .returned (.agg (u8s (digL b))) ∧ Below w.heap.size w w' := by
  obtain ⟨m, hm⟩ : ∃ m, min n 32 = m := ⟨_, rfl⟩
  have hmn : m ≤ n := by omega
  have hm3 : m ≤ 32 := by omega
  have hdl : digL b = dgP b m := by unfold digL; rw [hn, hm]
  have E0 : Blk ((w.alloc (.cells (u8s (zer 32)) 25)).alloc (.cells (u8s (zer 32)) 25)) w.heap.size 25 (u8s (zer 32)) := (Blk.new _ _ _).alloc _
  have E1 : Blk ((w.alloc (.cells (u8s (zer 32)) 25)).alloc (.cells (u8s (zer 32)) 25)) (w.heap.size + 1) 25 (u8s (dgP b 0)) := Blk.new1 _ _ _ _
  have B0 : Below w.heap.size w ((w.alloc (.cells (u8s (zer 32)) 25)).alloc (.cells (u8s (zer 32)) 25)) := ((Below.refl _ _).alloc (Nat.le_refl _) _).alloc (by simp) _
  have HA := Lib.hid (And.intro E0 (And.intro E1 (And.intro B0 (And.intro hr hdl))))
  clear E0 E1 B0 hr hdl
  go_enter Tryd.func38, Tryd.ntmps38
  go_wp2_with fail
  go_loopg [4] m (fun f iv wr => ∃ i : Nat, i + f = m ∧ iv = .int .i64 i ∧ Blk wr w.heap.size 25 (u8s (zer 32)) ∧ Blk wr (w.heap.size + 1) 25 (u8s (dgP b i)) ∧ Below w.heap.size w wr)
  case atStart => exact ⟨0, by omega, rfl, HA.out.1, HA.out.2.1, HA.out.2.2.1⟩
  case round =>
    obtain ⟨i, hif, rfl, K1, K2, B0⟩ := hrel
    by_cases hi : i < m
    · have c := K2.u8 (i := i) (by rw [dgP_length _ _ (by omega) (by omega)]; omega)
      have f := K2.frozen i
      have hset := dgP_set b i (by omega) (by omega)
      have hr' := HA.out.2.2.2.1.below B0
      obtain ⟨ad, rfl⟩ : ∃ ad, A = some ad := by
        cases A with
        | none => have := (hr'.1 rfl).2; subst this; simp at hn; omega
        | some ad => exact ⟨ad, rfl⟩
      have hne : b ≠ [] := by rintro rfl; simp at hn; omega
      obtain ⟨g, off, sp⟩ := ad
      obtain ⟨h1, h2, h3⟩ := hr'.2 _ rfl hne
      simp only at h1
      subst h1
      have cb := h3 i (by omega)
      simp only at cb
      have t0 : i < n := by omega
      have t1 : i < 32 := by omega
      generalize (dgP b i).getD i 0 = y at *
      generalize b.getD i 0 = x at *
      have HE := Lib.hid (And.intro K1 (And.intro K2 (And.intro B0 (And.intro hset hif)))); clear K1 K2 B0 hset hif hr' h3 h2
      go_wp2_with fail
      go_roundg (gk - 1)
      case measure => have := HE.out.2.2.2.2; omega
      case rel =>
        obtain ⟨K1, K2, B0, hset, hif⟩ := HE.out
        exact ⟨i + 1, by omega, by go_num, K1.far (by simp) _, K2.set8 _ _ hset, B0.setCell (by simp) _⟩
    · obtain rfl : i = m := by omega
      have hl := dgP_length b i (by omega) hm3
      have hdl := HA.out.2.2.2.2
      rw [← hdl] at hl K2
      clear hdl
      clear hi
      have l1 := load25_run K2 hl
      have s1 := store25_run K1 rfl hl
      have HE := Lib.hid (And.intro K1 (And.intro K2 B0)); clear K1 K2 B0
      have ways : ¬ i < n ∨ (i < n ∧ ¬ i < 32) := by omega
      rcases ways with t0 | ⟨t0, t1⟩
      · go_wp2_with fail
        (apply dig_ret (w := w) (p := 2) (d := digL b) <;> first | exact HE.out.1 | exact HE.out.2.2 | exact hl | rfl)
      · go_wp2_with fail
        (apply dig_ret (w := w) (p := 2) (d := digL b) <;> first | exact HE.out.1 | exact HE.out.2.2 | exact hl | rfl)
set_option maxRecDepth 100000 in
theorem rmake_any (w : World) : Calls Tryd.prog 37 #[] w fun e w' => e = .returned (.agg (u32s TT)) ∧ Below w.heap.size w w' := by
  go_enter Tryd.func37, Tryd.ntmps37
  go_wp2_with fail
  obtain ⟨W2, hW2⟩ : ∃ W2, W2 = w.alloc (.cells (u32s (ttP 0)) 32) := ⟨_, rfl⟩
  change Calls _ _ _ (w.alloc (.cells (u32s (ttP 0)) 32)) _
  rw [← hW2]
  have F1 : Blk W2 w.heap.size 32 (u32s (ttP 0)) := by rw [hW2]; exact Blk.new _ _ _
  have F3 : Below w.heap.size w W2 := by rw [hW2]; exact (Below.refl _ _).alloc (Nat.le_refl _) _
  clear hW2
  refine (make_any W2).mono ?_
  rintro e w3 ⟨rfl, B3⟩
  have H3 := Lib.hid (And.intro (F1.below B3 F1.lt) (F3.trans (B3.mono F3.size)))
  clear F1 F3 B3
  go_wp2_with (refine wpList_store_row rfl 32 (.tmp 0) (.tmp 1) rfl w.heap.size (u32s TT) rfl rfl 32 (u32s (ttP 0)) H3.out.1 (size32 _ TT_length) (by rw [u32s_size, u32s_size, TT_length, ttP_length _ (by omega)]) (u32s_one _) ?_)
  exact bodyPost_ret (v := .agg (u32s TT)) (results_cell_row rfl _ _ w.heap.size 32 _ (0, 0) _ rfl (H3.out.1.setRow _) Tryd.underlying32 rfl (size32 _ TT_length)) rfl ⟨rfl, below_setRow' H3.out.2 (Nat.le_refl _) _⟩
end Go.Proofs.YtediocpdpghbfaaDoor
namespace Go.Proofs.YtediocpdpghbfaaDoor
open Go Go.RowKit

/-- the cells of a tree: the size, then 17 digests -/
def treeC (n : Nat) (hs : List (List Nat)) : Array Value := (Value.int .i64 (n : Int) :: hcell hs).toArray
def zt : List (List Nat) := List.replicate 17 (zer 32)
theorem zt_digs : Digs zt := fun x hx => by
  have := List.eq_of_mem_replicate hx
  subst this
  exact ⟨by simp [zer], Bytes.of_mem (by intro y hy; unfold zer at hy; have := List.eq_of_mem_replicate hy; omega)⟩
theorem hcell_at : ∀ (hs : List (List Nat)) (hd : Digs hs) (k j : Nat), k < hs.length → j < 32 → (hcell hs)[32 * k + j]? = (bvals (hs.getD k []))[j]?
  | [], _, k, j, hk, _ => by simp at hk
  | a :: hs, hd, 0, j, _, hj => by
    have ha := (hd a (List.mem_cons_self ..)).1
    unfold hcell
    rw [List.flatMap_cons, Nat.mul_zero, Nat.zero_add, List.getElem?_append_left (by rw [bvals_length, ha]; exact hj)]
    simp
  | a :: hs, hd, k + 1, j, hk, hj => by
    have ha := (hd a (List.mem_cons_self ..)).1
    have ih := hcell_at hs (fun x hx => hd x (List.mem_cons_of_mem _ hx)) k j (by simpa using hk) hj
    unfold hcell at ih ⊢
    rw [List.flatMap_cons, List.getElem?_append_right (by rw [bvals_length, ha]; omega), bvals_length, ha, show 32 * (k + 1) + j - 32 = 32 * k + j by omega, ih]
    simp
theorem treeC_zero (n : Nat) (hs : List (List Nat)) : (treeC n hs)[0]? = some (.int .i64 (n : Int)) := by simp [treeC]
theorem treeC_at (n : Nat) (hs : List (List Nat)) (hd : Digs hs) (k j : Nat) (hk : k < hs.length) (hj : j < 32) : (treeC n hs)[1 + 32 * k + j]? = (bvals (hs.getD k []))[j]? := by
  rw [← hcell_at hs hd k j hk hj]
  simp only [treeC, List.getElem?_toArray]
  rw [show 1 + 32 * k + j = (32 * k + j) + 1 by omega, List.getElem?_cons_succ]
theorem tree_load {w : World} {g n : Nat} {hs : List (List Nat)} (h : Blk w g 111 (treeC n hs)) (hd : Digs hs) (k : Nat) (hk : k < hs.length) :
    (loadAgg 25 (.pointer (some ⟨g, 1 + 32 * k, none⟩))).run Tryd.prog w = .ok (.agg (u8s (hs.getD k []))) w := by
  have hl : (hs.getD k []).length = 32 := by
    rw [List.getD_eq_getElem?_getD, List.getElem?_eq_getElem hk]; exact (hd _ (List.getElem_mem hk)).1
  have := loadAgg_run (P := Tryd.prog) (w := w) (ty := 25) (g := g) (off := 1 + 32 * k) (u8s (hs.getD k [])).toList Tryd.underlying25 rfl (by rw [Array.length_toList]; exact size25 _ hl) (fun j v hv => by
    have hj : j < 32 := by
      have := (List.getElem?_eq_some_iff.1 hv).1
      rw [Array.length_toList, u8s_size, hl] at this; exact this
    rw [h.cell, treeC_at n hs hd k j hk hj, ← u8s_bvals, hv])
  simpa using this
def bt111 : Sem Value := Instr.build 111 #[]
theorem bt111_rule : Instr.build 111 #[] = bt111 := rfl
theorem bt111_run (w : World) : bt111.run Tryd.prog w = .ok (.agg (treeC 0 zt)) w := run_build (P := Tryd.prog) w 111 #[] (treeC 0 zt) (by kernel_rfl)
def bx111 (v : Value) : Sem Value := Instr.box 111 v
theorem bx111_rule (v : Value) : Instr.box 111 v = bx111 v := rfl
theorem bx111_run (w : World) (cs : Array Value) : (bx111 (.agg cs)).run Tryd.prog w = .ok (.pointer (some ⟨w.heap.size, 0, none⟩)) (w.alloc (.cells cs 111)) := by
  unfold bx111 Instr.box
  simp [newVar, newRow, Value.cells]
attribute [local go_sem ↓] bt111_rule bx111_rule
attribute [local go_sem] bt111_run bx111_run
set_option maxRecDepth 100000 in
theorem mnew_any (w : World) : Calls Tryd.prog 43 #[] w fun e w' => e = .returned (.pointer (some ⟨w.heap.size, 0, none⟩)) ∧ Blk w' w.heap.size 111 (treeC 0 zt) ∧ Below w.heap.size w w' := by
  go_enter Tryd.func43, Tryd.ntmps43
  go_wp2_with fail
  go_ret
  exact ⟨rfl, Blk.new _ _ _, (Below.refl _ _).alloc (Nat.le_refl _) _⟩
set_option maxRecDepth 100000 in
theorem mlen_any (w : World) (g n : Nat) (hs : List (List Nat)) (h : Blk w g 111 (treeC n hs)) : Calls Tryd.prog 46 #[.pointer (some ⟨g, 0, none⟩)] w fun e w' => e = .returned (.int .i64 n) ∧ w = w' := by
  have c0 := (h.cell 0).trans (treeC_zero n hs)
  go_enter Tryd.func46, Tryd.ntmps46
  go_wp2_with fail
  go_ret
  exact ⟨rfl, rfl⟩
set_option maxRecDepth 100000 in
theorem mlen_nil (w : World) : Calls Tryd.prog 46 #[.pointer none] w fun e w' => e = .returned (.int .i64 0) ∧ w = w' := by
  go_enter Tryd.func46, Tryd.ntmps46
  go_wp2_with fail
  go_ret
  exact ⟨rfl, rfl⟩
end Go.Proofs.YtediocpdpghbfaaDoor
namespace Go.Proofs.YtediocpdpghbfaaDoor
open Go Go.RowKit

theorem bits_and1 (x : Nat) (hx : x < 9223372036854775808) : bits .and .i64 (x : Int) 1 = ((x % 2 : Nat) : Int) := by
  have e : (2 : Nat) ^ IntKind.i64.bits = 18446744073709551616 := by decide
  have e0 : IntKind.i64.wrap ((0 : Nat) : Int) = 0 := by decide
  have e1 : IntKind.i64.wrap ((1 : Nat) : Int) = 1 := by decide
  unfold bits
  simp only [Int.toNat_natCast]
  simp
  rw [e, Nat.mod_eq_of_lt (by omega : x < 18446744073709551616), show (1 : Nat) % 18446744073709551616 = 1 by decide, Nat.and_one_is_mod]
  rcases Nat.mod_two_eq_zero_or_one x with h | h
  · rw [h, e0]; omega
  · rw [h, e1]; omega
theorem bits_shr1 (n i : Nat) (hn : n ≤ 65536) : bits .and .i64 ((n : Int) / 2 ^ i) 1 = ((n / 2 ^ i % 2 : Nat) : Int) := by
  have h : ((n : Int) / 2 ^ i) = ((n / 2 ^ i : Nat) : Int) := by simp
  rw [h, bits_and1 _ (Nat.lt_of_le_of_lt (Nat.div_le_self _ _) (by omega))]
def trStep (n : Nat) (hs : List (List Nat)) (i : Nat) (s : List Nat × Bool) : List Nat × Bool :=
  if n / 2 ^ i % 2 = 0 then s else if s.2 then (nodeL (hs.getD i []) s.1, true) else (hs.getD i [], true)
def trSt (n : Nat) (hs : List (List Nat)) : Nat → List Nat × Bool
  | 0 => (sha [], false)
  | i + 1 => trStep n hs i (trSt n hs i)
def trootL (n : Nat) (hs : List (List Nat)) : List Nat := (trSt n hs 17).1
theorem digs_at {hs : List (List Nat)} (hd : Digs hs) {k : Nat} (hk : k < hs.length) : (hs.getD k []).length = 32 ∧ Bytes (hs.getD k []) := by
  rw [List.getD_eq_getElem?_getD, List.getElem?_eq_getElem hk]; exact hd _ (List.getElem_mem hk)
theorem trSt_ok (n : Nat) (hs : List (List Nat)) (hd : Digs hs) : ∀ i, i ≤ hs.length → (trSt n hs i).1.length = 32 ∧ Bytes (trSt n hs i).1
  | 0, _ => ⟨sha_length _, sha_bytes _⟩
  | i + 1, h => by
    have ih := trSt_ok n hs hd i (by omega)
    have hk := digs_at hd (k := i) (by omega)
    simp only [trSt, trStep]
    split
    · exact ih
    · split
      · exact ⟨nodeL_length _ _, sha_bytes _⟩
      · exact hk
theorem at_rowT {w W : World} (h : At w W) {g : Nat} (hg : w.heap.size ≤ g) (cs : Array Value) : At w (W.setRow g cs) := ⟨h.t0, below_setRow' h.b hg cs⟩
attribute [local go_sem ↓] ld25 st25
set_option maxRecDepth 100000 in
set_option maxHeartbeats 2000000 in
theorem mtroot_any (w : World) (hT : Tabs w) (g n : Nat) (hn : n ≤ 65536) (hs : List (List Nat)) (hl : hs.length = 17) (hd : Digs hs) (hE : Blk w g 111 (treeC n hs)) :
    Calls Tryd.prog 47 #[.pointer (some ⟨g, 0, none⟩)] w fun e w' => e = .returned (.agg (u8s (trootL n hs))) ∧ Below w.heap.size w w' := by
  have E0 : Blk (w.alloc (.cells (u8s (zer 32)) 25)) w.heap.size 25 (u8s (zer 32)) := Blk.new _ _ _
  have A0 : At w (w.alloc (.cells (u8s (zer 32)) 25)) := ⟨hT, (Below.refl _ _).alloc (Nat.le_refl _) _⟩
  have H0 := Lib.hid (And.intro E0 (And.intro (hE.alloc (.cells (u8s (zer 32)) 25)) A0))
  have hgw := hE.lt
  clear E0 A0 hT hE
  go_enter Tryd.func47, Tryd.ntmps47
  go_wp2_with fail
  change Calls _ _ _ (w.alloc (.cells (u8s (zer 32)) 25)) _
  generalize w.alloc (.cells (u8s (zer 32)) 25) = W at *
  refine (rootof_any 0 [] W none 0 rfl (by omega) (by omega) (by omega) H0.out.2.2.t (Or.inl rfl)).mono ?_
  rintro e w1 ⟨rfl, B1⟩
  have H1 := Lib.hid (And.intro (H0.out.1.below B1 H0.out.1.lt) (And.intro (H0.out.2.1.below B1 H0.out.2.1.lt) (H0.out.2.2.step B1)))
  clear B1 H0
  rw [mrootL_zero _ rfl]
  have h32 : (sha []).length = 32 := sha_length _
  go_wp2_with (refine wpList_fillM rfl 25 (.tmp 3) (.tmp 9) rfl (u8s (sha [])) rfl rfl (size25 _ h32) (by rw [u8s_size, h32]; rfl) (u8s_one _) ?_; intro w2 E2 B2; have hgr : w.heap.size < w1.heap.size := H1.out.1.lt; have H2 := Lib.hid (And.intro E2 (And.intro (H1.out.1.below B2 H1.out.1.lt) (And.intro (H1.out.2.1.below B2 H1.out.2.1.lt) (H1.out.2.2.step B2)))); clear E2 B2 H1)
  generalize w1.heap.size = gr at *
  go_loopg [4, 10] 17 (fun f ok iv wr => ∃ i : Nat, i + f = 17 ∧ ok = .bool (trSt n hs i).2 ∧ iv = .int .i64 i ∧ Blk wr gr 25 (u8s (trSt n hs i).1) ∧ Blk wr w.heap.size 25 (u8s (zer 32)) ∧ Blk wr g 111 (treeC n hs) ∧ At w wr)
  case atStart => exact ⟨0, rfl, rfl, rfl, H2.out.1, H2.out.2.1, H2.out.2.2.1, H2.out.2.2.2⟩
  case round =>
    clear H2
    obtain ⟨i, hif, rfl, rfl, E1, E2, E3, A3⟩ := hrel
    by_cases hi : i < 17
    · have c0 := (E3.cell 0).trans (treeC_zero n hs)
      have hk := digs_at hd (k := i) (by omega)
      have hr := trSt_ok n hs hd i (by omega)
      have hb := bits_shr1 n i hn
      have q1 := tree_load E3 hd i (by omega)
      have q2 := tree_load E3.drew hd i (by omega)
      have q3 := load25_run E1.drew hr.1
      have s0 := store25_run E1 hr.1 hk.1
      rw [Nat.mul_comm 32 i] at q1 q2
      have h0 : n / 2 ^ i % 2 = 0 → trSt n hs (i + 1) = trSt n hs i := fun h => by simp only [trSt, trStep]; rw [if_pos h]
      have h1 : n / 2 ^ i % 2 = 1 → (trSt n hs i).2 = false → trSt n hs (i + 1) = (hs.getD i [], true) := fun h ho => by simp only [trSt, trStep]; rw [if_neg (by omega), ho]; rfl
      have h2 : n / 2 ^ i % 2 = 1 → (trSt n hs i).2 = true → trSt n hs (i + 1) = (nodeL (hs.getD i []) (trSt n hs i).1, true) := fun h ho => by simp only [trSt, trStep]; rw [if_neg (by omega), ho]; rfl
      have HE := Lib.hid (And.intro E1 (And.intro E2 (And.intro E3 A3)))
      have HH := Lib.hid (And.intro h0 (And.intro h1 h2))
      clear E1 E2 E3 A3 h0 h1 h2
      generalize hs.getD i [] = x at *
      rcases Nat.mod_two_eq_zero_or_one (n / 2 ^ i) with h01 | h01
      · rw [h01] at hb
        have HS := Lib.hid (HH.out.1 h01)
        clear h01 q1 q2 q3 s0
        go_wp2_with fail
        go_roundg (gk - 1)
        case measure => omega
        case rel => exact ⟨i + 1, by omega, by rw [HS.out], by go_num, by rw [HS.out]; exact HE.out.1, HE.out.2.1, HE.out.2.2.1, HE.out.2.2.2⟩
      · rw [h01] at hb
        cases hok : (trSt n hs i).2 with
        | false =>
          have HS := Lib.hid (HH.out.2.1 h01 hok)
          clear h01 q2 q3
          go_wp2_with fail
          go_roundg (gk - 1)
          case measure => omega
          case rel => exact ⟨i + 1, by omega, by rw [HS.out], by go_num, by rw [HS.out]; exact HE.out.1.setRow _, HE.out.2.1.farRow (by omega) _, HE.out.2.2.1.farRow (by omega) _, at_rowT HE.out.2.2.2 (by omega) _⟩
        | true =>
          have HS := Lib.hid (HH.out.2.2 h01 hok)
          clear h01 q1 s0
          go_wp2_with fail
          refine wp_region_sego [0, 0, 0, 0, 0, 0, 0, 1, 3] [true, true] (by kernel_rfl) (by kernel_rfl) (fun _ _ d _ _ h => by cases d <;> exact h) (sego_last fun K0 hK0 => ?_)
          simp only [pickC, ↓reduceIte, Nat.reduceEqDiff, Nat.reduceAdd]
          go_wp2_with fail
          refine hK0.out _ (sego_do fun K2 hK2 => ?_)
          clear hK0 K0
          simp only [pickC, ↓reduceIte, Nat.reduceEqDiff, Nat.reduceAdd]
          go_wp2_with fail
          refine (nodehash_any _ HE.out.2.2.2.drew.t x (trSt n hs i).1 hk.1 hr.1 hk.2 hr.2).mono ?_
          rintro e w3 ⟨rfl, B3⟩
          have H3 := Lib.hid (And.intro (HE.out.1.drew.below B3 HE.out.1.drew.lt) (And.intro (HE.out.2.1.drew.below B3 HE.out.2.1.drew.lt) (And.intro (HE.out.2.2.1.drew.below B3 HE.out.2.2.1.drew.lt) (HE.out.2.2.2.drew.step B3))))
          clear B3
          have s3 := store25_run H3.out.1 hr.1 (nodeL_length x (trSt n hs i).1)
          go_wp2_with fail
          refine hK2.out _ _ (sego_last fun K0 hK0 => ?_)
          clear hK2 K2
          simp only [pickC, ↓reduceIte, Nat.reduceEqDiff, Nat.reduceAdd]
          go_wp2_with fail
          refine hK0.out _ (sego_do fun K2 hK2 => ?_)
          clear hK0 K0
          simp only [pickC, ↓reduceIte, Nat.reduceEqDiff, Nat.reduceAdd]
          go_wp2_with fail
          refine hK2.out _ _ (sego_end fun K0 hK0 => ?_)
          clear hK2 K2
          simp only [pickC, ↓reduceIte, Nat.reduceEqDiff, Nat.reduceAdd]
          go_wp2_with fail
          refine hK0.out _ ?_
          clear hK0 K0
          go_wp2_with fail
          go_roundg (gk - 1)
          case measure => omega
          case rel => exact ⟨i + 1, by omega, by rw [HS.out], by go_num, by rw [HS.out]; exact H3.out.1.setRow _, H3.out.2.1.farRow (by omega) _, H3.out.2.2.1.farRow (by omega) _, at_rowT H3.out.2.2.2 (by omega) _⟩
    · obtain rfl : i = 17 := by omega
      have hr := trSt_ok n hs hd 17 (by omega)
      have l1 := load25_run E1 hr.1
      have s1 := store25_run E2 rfl hr.1
      have HE := Lib.hid (And.intro E2 A3.b)
      clear E1 E2 E3 A3 hi
      go_wp2_with fail
      exact dig_ret rfl hr.1 rfl rfl HE.out.1 HE.out.2
end Go.Proofs.YtediocpdpghbfaaDoor
namespace Go.Proofs.YtediocpdpghbfaaDoor
open Go Go.RowKit

def bz25 : Sem Value := Instr.build 25 #[]
theorem bz25_rule : Instr.build 25 #[] = bz25 := rfl
theorem bz25_run (w : World) : bz25.run Tryd.prog w = .ok (.agg (u8s (zer 32))) w := run_build (P := Tryd.prog) w 25 #[] (u8s (zer 32)) (by kernel_rfl)
attribute [local go_sem ↓] ld25 st25 bz25_rule
attribute [local go_sem] bz25_run
set_option maxRecDepth 100000 in
theorem mtroot_nil (w : World) : Calls Tryd.prog 47 #[.pointer none] w fun e w' => e = .returned (.agg (u8s (zer 32))) ∧ Below w.heap.size w w' := by
  have hz : (zer 32).length = 32 := by decide
  go_enter Tryd.func47, Tryd.ntmps47
  go_wp2_with (refine wpList_store_row rfl 25 (.tmp 2) (.tmp 8) rfl w.heap.size (u8s (zer 32)) rfl rfl 25 (u8s (zer 32)) (Blk.new _ _ _) (size25 _ hz) rfl (u8s_one _) ?_)
  exact dig_ret rfl hz rfl rfl (Blk.new _ _ _) ((Below.refl _ _).alloc (Nat.le_refl _) _)
/-- Append's digest behind i rounds -/
def apS (hs : List (List Nat)) (d : List Nat) : Nat → List Nat
  | 0 => d
  | i + 1 => nodeL (hs.getD i []) (apS hs d i)
theorem apS_ok (hs : List (List Nat)) (d : List Nat) (hd : d.length = 32) (hB : Bytes d) : ∀ i, (apS hs d i).length = 32 ∧ Bytes (apS hs d i)
  | 0 => ⟨hd, hB⟩
  | i + 1 => ⟨nodeL_length _ _, sha_bytes _⟩
theorem hcell_set : ∀ (hs : List (List Nat)) (hd : Digs hs) (k : Nat) (d : List Nat), k < hs.length → d.length = 32 →
    hcell (hs.set k d) = (hcell hs).take (32 * k) ++ bvals d ++ (hcell hs).drop (32 * k + 32)
  | [], _, k, d, hk, _ => by simp at hk
  | a :: hs, hd, 0, d, _, hl => by
    have ha := (hd a (List.mem_cons_self ..)).1
    unfold hcell
    simp only [List.set_cons_zero, List.flatMap_cons, Nat.mul_zero, List.take_zero, List.nil_append, Nat.zero_add]
    rw [List.drop_append_of_le_length (by rw [bvals_length, ha]; omega), List.drop_of_length_le (by rw [bvals_length, ha]; omega), List.nil_append]
  | a :: hs, hd, k + 1, d, hk, hl => by
    have ha := (hd a (List.mem_cons_self ..)).1
    have ih := hcell_set hs (fun x hx => hd x (List.mem_cons_of_mem _ hx)) k d (by simpa using hk) hl
    unfold hcell at ih ⊢
    simp only [List.set_cons_succ, List.flatMap_cons]
    have e1 : (bvals a).take (32 * (k + 1)) = bvals a := List.take_of_length_le (by rw [bvals_length, ha]; omega)
    have e2 : (bvals a).drop (32 * (k + 1) + 32) = [] := List.drop_of_length_le (by rw [bvals_length, ha]; omega)
    rw [ih, List.take_append, List.drop_append, bvals_length, ha, e1, e2, show 32 * (k + 1) - 32 = 32 * k by omega, show 32 * (k + 1) + 32 - 32 = 32 * k + 32 by omega]
    simp
theorem tree_store {w : World} {g n : Nat} {hs : List (List Nat)} (h : Blk w g 111 (treeC n hs)) (hd : Digs hs) (k : Nat) (hk : k < hs.length) (d : List Nat) (hl : d.length = 32) :
    (storeAgg 25 (.pointer (some ⟨g, 1 + 32 * k, none⟩)) (.agg (u8s d))).run Tryd.prog w = .ok () (w.setRow g (treeC n (hs.set k d))) := by
  have hlen := hcell_length hs hd
  have := storeAgg_run (P := Tryd.prog) (w := w) (ty := 25) (t := 111) (g := g) (off := 1 + 32 * k) (cur := Value.int .i64 (n : Int) :: hcell hs) (u8s d) h (size25 d hl) (by rw [u8s_size, hl, List.length_cons, hlen]; omega) (u8s_one _)
  rw [this, u8s_size, hl, u8s_bvals]
  unfold treeC
  rw [hcell_set hs hd k d hk hl, show 1 + 32 * k = 32 * k + 1 by omega, show 32 * k + 1 + 32 = 32 * k + 32 + 1 by omega, List.take_succ_cons, List.drop_succ_cons]
  simp
theorem treeC_set0 (n : Nat) (hs : List (List Nat)) : (treeC n hs).setIfInBounds 0 (.int .i64 ((n : Int) + 1)) = treeC (n + 1) hs := by
  simp [treeC]
end Go.Proofs.YtediocpdpghbfaaDoor
namespace Go.Proofs.YtediocpdpghbfaaDoor
open Go Go.RowKit
attribute [local go_sem ↓] ld25 st25
set_option maxRecDepth 100000 in
set_option maxHeartbeats 2000000 in
theorem mappend_any (w : World) (hT : Tabs w) (g n k : Nat) (hs : List (List Nat)) (hn : n < 65536) (hk16 : k ≤ 16) (h1 : ∀ j, j < k → n / 2 ^ j % 2 = 1) (h0 : n / 2 ^ k % 2 = 0) (hl : hs.length = 17) (hd : Digs hs) (hE : Blk w g 111 (treeC n hs))
    (b : List Nat) (A : Option Addr) (m cap : Nat) (lb : b.length = m) (hcap : m ≤ cap) (hm : m ≤ 1000000) (hB : Bytes b) (hR : RW w A cap b) :
    Calls Tryd.prog 48 #[.pointer (some ⟨g, 0, none⟩), .slice A m cap] w fun e w' => e = .returned (.int .i64 0) ∧ Blk w' g 111 (treeC (n + 1) (hs.set k (apS hs (leafL b) k))) ∧ w.grownBy w' (some g) := by
  have hgw := hE.lt
  have HL := Lib.hid (leafhash_any w hT b A m cap lb hcap hm hB hR)
  have hdl := leafL_length b
  have hdb : Bytes (leafL b) := sha_bytes _
  generalize leafL b = d at *
  have c0 := (hE.cell 0).trans (treeC_zero n hs)
  have t0 : ¬ (65536 : Int) ≤ n := by omega
  have H0 := Lib.hid (And.intro hE hT)
  have HB := Lib.hid (And.intro h1 h0)
  clear hE hT hB hR lb h1 h0
  go_enter Tryd.func48, Tryd.ntmps48
  go_wp2_with fail
  refine HL.out.mono ?_
  rintro e w1 ⟨rfl, B1⟩
  have H1 := Lib.hid (And.intro (H0.out.1.below B1 H0.out.1.lt) (At.mk H0.out.2 B1))
  have hs1 := B1.size
  clear B1 HL c0
  go_wp2_with (refine wpList_fillM rfl 25 (.tmp 5) (.tmp 15) rfl (u8s d) rfl rfl (size25 _ hdl) (by rw [u8s_size, hdl]; rfl) (u8s_one _) ?_; intro w2 E2 B2; have H2 := Lib.hid (And.intro E2 (And.intro (H1.out.1.below B2 H1.out.1.lt) (H1.out.2.step B2))); clear E2 B2 H1)
  generalize w1.heap.size = gr at *
  go_loopg [6] k (fun f iv wr => ∃ i : Nat, i + f = k ∧ iv = .int .i64 i ∧ Blk wr gr 25 (u8s (apS hs d i)) ∧ Blk wr g 111 (treeC n hs) ∧ At w wr)
  case atStart => exact ⟨0, by omega, rfl, H2.out.1, H2.out.2.1, H2.out.2.2⟩
  case round =>
    clear H2
    obtain ⟨i, hif, rfl, E1, E3, A3⟩ := hrel
    have c0 := (E3.cell 0).trans (treeC_zero n hs)
    have hb := bits_shr1 n i (by omega)
    have hr := apS_ok hs d hdl hdb i
    by_cases hi : i < k
    · have hk := digs_at hd (k := i) (by omega)
      have q2 := tree_load E3.drew hd i (by omega)
      have q3 := load25_run E1.drew hr.1
      rw [Nat.mul_comm 32 i] at q2
      have hst : apS hs d (i + 1) = nodeL (hs.getD i []) (apS hs d i) := rfl
      have HE := Lib.hid (And.intro E1 (And.intro E3 A3))
      rw [HB.out.1 i hi] at hb
      have HS := Lib.hid hst
      clear E1 E3 A3 hst
      generalize hs.getD i [] = x at *
      go_wp2_with fail
      refine wp_region_sego [0, 0, 0, 0, 0, 0, 0, 1, 3] [true, true] (by kernel_rfl) (by kernel_rfl) (fun _ _ d _ _ h => by cases d <;> exact h) (sego_last fun K0 hK0 => ?_)
      simp only [pickC, ↓reduceIte, Nat.reduceEqDiff, Nat.reduceAdd]
      go_wp2_with fail
      refine hK0.out _ (sego_do fun K2 hK2 => ?_)
      clear hK0 K0
      simp only [pickC, ↓reduceIte, Nat.reduceEqDiff, Nat.reduceAdd]
      go_wp2_with fail
      refine (nodehash_any _ HE.out.2.2.drew.t x (apS hs d i) hk.1 hr.1 hk.2 hr.2).mono ?_
      rintro e w3 ⟨rfl, B3⟩
      have H3 := Lib.hid (And.intro (HE.out.1.drew.below B3 HE.out.1.drew.lt) (And.intro (HE.out.2.1.drew.below B3 HE.out.2.1.drew.lt) (HE.out.2.2.drew.step B3)))
      clear B3
      have s3 := store25_run H3.out.1 hr.1 (nodeL_length x (apS hs d i))
      go_wp2_with fail
      refine hK2.out _ _ (sego_last fun K0 hK0 => ?_)
      clear hK2 K2
      simp only [pickC, ↓reduceIte, Nat.reduceEqDiff, Nat.reduceAdd]
      go_wp2_with fail
      refine hK0.out _ (sego_do fun K2 hK2 => ?_)
      clear hK0 K0
      simp only [pickC, ↓reduceIte, Nat.reduceEqDiff, Nat.reduceAdd]
      go_wp2_with fail
      refine hK2.out _ _ (sego_end fun K0 hK0 => ?_)
      clear hK2 K2
      simp only [pickC, ↓reduceIte, Nat.reduceEqDiff, Nat.reduceAdd]
      go_wp2_with fail
      refine hK0.out _ ?_
      clear hK0 K0
      go_wp2_with fail
      go_roundg (gk - 1)
      case measure => omega
      case rel => exact ⟨i + 1, by omega, by go_num, by rw [HS.out]; exact H3.out.1.setRow _, H3.out.2.1.farRow (by omega) _, at_rowT H3.out.2.2 (by omega) _⟩
    · obtain rfl : i = k := by omega
      rw [HB.out.2] at hb
      have q3 := load25_run E1.drew hr.1
      have q4 := tree_store E3.drew hd i (by omega) (apS hs d i) hr.1
      rw [Nat.mul_comm 32 i] at q4
      have E4 : Blk (wr.drew.setRow g (treeC n (hs.set i (apS hs d i)))) g 111 (treeC n (hs.set i (apS hs d i))) := E3.drew.setRow _
      have c4 := (E4.cell 0).trans (treeC_zero n _)
      have f4 := E4.frozen 0
      have HE := Lib.hid (And.intro E4 A3)
      clear E1 E3 A3 E4 hi HB
      go_wp2_with fail
      refine wp_region_sego [0, 0, 0, 0, 0, 0, 1] [true] (by kernel_rfl) (by kernel_rfl) (fun _ _ d _ _ h => by cases d <;> exact h) (sego_last fun K0 hK0 => ?_)
      simp only [pickC, ↓reduceIte, Nat.reduceEqDiff, Nat.reduceAdd]
      go_wp2_with fail
      refine hK0.out _ (sego_do fun K2 hK2 => ?_)
      clear hK0 K0
      simp only [pickC, ↓reduceIte, Nat.reduceEqDiff, Nat.reduceAdd]
      go_wp2_with fail
      refine hK2.out _ _ (sego_end fun K0 hK0 => ?_)
      clear hK2 K2
      simp only [pickC, ↓reduceIte, Nat.reduceEqDiff, Nat.reduceAdd]
      go_wp2_with fail
      refine hK0.out _ ?_
      clear hK0 K0
      go_wp2_with fail
      go_ret
      refine ⟨rfl, ?_, grown_setCell (grown_setRow (a := w) (w := wr.drew) ⟨HE.out.2.b.os, HE.out.2.b.tape, HE.out.2.b.output, HE.out.2.b.size, fun j hj _ => HE.out.2.b.block j hj⟩ _) 0 _⟩
      have hfin := HE.out.1.set_ 0 (.int .i64 ((n : Int) + 1))
      rw [treeC_set0] at hfin
      exact hfin
end Go.Proofs.YtediocpdpghbfaaDoor
namespace Go.Proofs.YtediocpdpghbfaaDoor
open Go Go.RowKit
set_option maxRecDepth 100000 in
theorem mappend_nil (w : World) (A : Option Addr) (m cap : Nat) : Calls Tryd.prog 48 #[.pointer none, .slice A m cap] w fun e w' => e = .returned (.int .i64 1) ∧ w = w' := by
  go_enter Tryd.func48, Tryd.ntmps48
  go_wp2_with fail
  go_ret
  exact ⟨rfl, rfl⟩
set_option maxRecDepth 100000 in
theorem mappend_full (w : World) (g n : Nat) (hs : List (List Nat)) (hn : 65536 ≤ n) (hE : Blk w g 111 (treeC n hs)) (A : Option Addr) (m cap : Nat) : Calls Tryd.prog 48 #[.pointer (some ⟨g, 0, none⟩), .slice A m cap] w fun e w' => e = .returned (.int .i64 8) ∧ w = w' := by
  have c0 := (hE.cell 0).trans (treeC_zero n hs)
  have t0 : (65536 : Int) ≤ n := by omega
  go_enter Tryd.func48, Tryd.ntmps48
  go_wp2_with fail
  go_ret
  exact ⟨rfl, rfl⟩
end Go.Proofs.YtediocpdpghbfaaDoor
namespace Go.Proofs.YtediocpdpghbfaaDoor
open Go Go.RowKit
set_option maxRecDepth 100000 in
theorem mclone_nil (w : World) : Calls Tryd.prog 61 #[.pointer none] w fun e w' => e = .returned (.pointer none) ∧ w = w' := by
  go_enter Tryd.func61, Tryd.ntmps61
  go_wp2_with fail
  go_ret
  exact ⟨rfl, rfl⟩
end Go.Proofs.YtediocpdpghbfaaDoor
namespace Go.Proofs.YtediocpdpghbfaaDoor
open Go Go.RowKit
def al111 : Sem Value := Instr.alloc 111 true (.tuple #[])
theorem al111_rule : Instr.alloc 111 true (.tuple #[]) = al111 := rfl
theorem info111 : (Tryd.prog.info? 111).map (fun i => (i.zero, i.size)) = some (some (.agg (treeC 0 zt)), 545) := by kernel_rfl
theorem ld111 (x : Value) : Instr.loadAt 111 x = loadAgg 111 x := rfl
theorem st111 (x v : Value) : Instr.storeAt 111 x v = storeAgg 111 x v := rfl
theorem al111_run (w : World) : al111.run Tryd.prog w = .ok (.pointer (some ⟨w.heap.size, 0, none⟩)) (w.alloc (.cells (treeC 0 zt) 111)) := by
  have h := info111
  unfold al111 Instr.alloc
  cases hq : Tryd.prog.info? 111 with
  | none => rw [hq] at h; cases h
  | some i =>
    rw [hq] at h
    simp only [Option.map_some, Option.some.injEq, Prod.mk.injEq] at h
    simp [newVar, newRow, zeroValue, typeInfo, hq, h.1, Value.cells]
theorem treeC_size (n : Nat) (hs : List (List Nat)) (hl : hs.length = 17) (hd : Digs hs) : (treeC n hs).size = 545 := by
  unfold treeC; rw [List.size_toArray, List.length_cons, hcell_length hs hd, hl]
theorem size111 (cs : Array Value) (h : cs.size = 545) : (Tryd.prog.info? 111).map (·.size) = some cs.size := by rw [h]; kernel_rfl
theorem treeC_one (n : Nat) (hs : List (List Nat)) : (treeC n hs).all (·.oneCell') = true := by
  rw [Array.all_eq_true_iff_forall_mem]
  intro v hv
  simp only [treeC, List.mem_toArray, List.mem_cons, hcell, List.mem_flatMap, bvals, List.mem_map] at hv
  rcases hv with rfl | ⟨_, _, _, _, rfl⟩ <;> rfl
attribute [local go_sem ↓] al111_rule ld111 st111
attribute [local go_sem] al111_run
set_option maxRecDepth 100000 in
theorem mclone_any (w : World) (g n : Nat) (hs : List (List Nat)) (hl : hs.length = 17) (hd : Digs hs) (hE : Blk w g 111 (treeC n hs)) :
    Calls Tryd.prog 61 #[.pointer (some ⟨g, 0, none⟩)] w fun e w' => e = .returned (.pointer (some ⟨w.heap.size, 0, none⟩)) ∧ Blk w' w.heap.size 111 (treeC n hs) ∧ Below w.heap.size w w' := by
  have hz := treeC_size n hs hl hd
  have l1 : (loadAgg 111 (.pointer (some ⟨g, 0, none⟩))).run Tryd.prog w = .ok (.agg (treeC n hs)) w := by
    have := loadAgg_run (P := Tryd.prog) (w := w) (ty := 111) (g := g) (off := 0) (treeC n hs).toList Tryd.underlying111 rfl (by rw [Array.length_toList]; exact size111 _ hz) (fun j v hv => by rw [Nat.zero_add, hE.cell]; simpa using hv)
    simpa using this
  go_enter Tryd.func61, Tryd.ntmps61
  go_wp2_with (refine wpList_fillM rfl 111 (.tmp 3) (.tmp 8) rfl (treeC n hs) rfl rfl (size111 _ hz) (by rw [hz]; exact treeC_size 0 zt rfl zt_digs) (treeC_one n hs) ?_; intro w2 E2 B2; have H2 := Lib.hid (And.intro E2 B2); clear E2 B2)
  go_ret
  exact ⟨rfl, H2.out.1, H2.out.2⟩
end Go.Proofs.YtediocpdpghbfaaDoor
namespace Go.Proofs.YtediocpdpghbfaaDoor
open Go Go.RowKit

theorem splitGo_pow (i n : Nat) (h1 : 2 ^ i < n) (h2 : n ≤ 2 ^ (i + 1)) : ∀ (f a : Nat), a ≤ i → n ≤ 2 ^ a + f → splitGo f (2 ^ a) n = 2 ^ i
  | 0, a, ha, hf => by
    have := Nat.pow_le_pow_right (show 0 < 2 by omega) ha
    omega
  | f + 1, a, ha, hf => by
    unfold splitGo
    have hp : 2 * 2 ^ a = 2 ^ (a + 1) := by rw [Nat.pow_succ, Nat.mul_comm]
    have hpos : 0 < 2 ^ a := Nat.pow_pos (by omega)
    rw [hp]
    by_cases h : 2 ^ (a + 1) < n
    · rw [if_pos h]
      have hai : a + 1 ≤ i := by
        rcases Nat.lt_or_ge i (a + 1) with hlt | hge
        · have := Nat.pow_le_pow_right (show 0 < 2 by omega) (show i + 1 ≤ a + 1 by omega); omega
        · exact hge
      exact splitGo_pow i n h1 h2 f (a + 1) hai (by omega)
    · rw [if_neg h]
      have : a = i := by
        rcases Nat.lt_or_ge a i with hlt | hge
        · have := Nat.pow_le_pow_right (show 0 < 2 by omega) (show a + 1 ≤ i by omega); omega
        · omega
      rw [this]
theorem splitL_pow (i n : Nat) (h1 : 2 ^ i < n) (h2 : n ≤ 2 ^ (i + 1)) : splitL n = 2 ^ i := splitGo_pow i n h1 h2 n 0 (Nat.zero_le _) (by simp)

/-- bit i of n is set: where its chunk begins -/
theorem bit_parts (n i : Nat) : n / 2 ^ (i + 1) * 2 ^ (i + 1) + (n % 2 ^ i + 2 ^ i * (n / 2 ^ i % 2)) = n := by
  rw [← Nat.mod_pow_succ]; exact Nat.div_add_mod' n (2 ^ (i + 1))
def chunkL (l : List (List Nat)) (n i : Nat) : List (List Nat) := (l.drop (n / 2 ^ (i + 1) * 2 ^ (i + 1))).take (2 ^ i)
structure TInv (n : Nat) (hs l : List (List Nat)) : Prop where
  len : l.length = n
  hl : hs.length = 17
  hd : Digs hs
  at_ : ∀ i, i < 17 → n / 2 ^ i % 2 = 1 → hs.getD i [] = mrootL (chunkL l n i)
theorem tinv_zero : TInv 0 zt [] := ⟨rfl, rfl, zt_digs, fun i _ h => by simp at h⟩
theorem trSt_inv (n : Nat) (hs l : List (List Nat)) (h : TInv n hs l) : ∀ i, i ≤ 17 → trSt n hs i = if n % 2 ^ i = 0 then (sha [], false) else (mrootL (l.drop (n - n % 2 ^ i)), true)
  | 0, _ => by simp [trSt, Nat.mod_one]
  | i + 1, hi => by
    have ih := trSt_inv n hs l h i (by omega)
    have hb := bit_parts n i
    have hm := Nat.mod_pow_succ (x := n) (b := 2) (k := i)
    have hpos : 0 < 2 ^ i := Nat.pow_pos (by omega)
    have hlt := Nat.mod_lt n hpos
    have hpp : 2 ^ (i + 1) = 2 * 2 ^ i := by rw [Nat.pow_succ, Nat.mul_comm]
    simp only [trSt, trStep]
    rcases Nat.mod_two_eq_zero_or_one (n / 2 ^ i) with h0 | h1
    · rw [if_pos h0, ih, hm, h0, Nat.mul_zero, Nat.add_zero]
    · have hat := h.at_ i (by omega) h1
      rw [h1, Nat.mul_one] at hm hb
      rw [if_neg (by omega), ih, hm, if_neg (show ¬ (n % 2 ^ i + 2 ^ i = 0) by omega), hat]
      unfold chunkL
      generalize hA : n / 2 ^ (i + 1) * 2 ^ (i + 1) = A at *
      by_cases hr : n % 2 ^ i = 0
      · rw [if_pos hr]
        simp only [Bool.false_eq_true, if_false]
        rw [List.take_of_length_le (by rw [List.length_drop, h.len]; omega), show n - (n % 2 ^ i + 2 ^ i) = A by omega]
      · rw [if_neg hr]
        simp only [if_true]
        have hX : (l.drop A).length = n % 2 ^ i + 2 ^ i := by rw [List.length_drop, h.len]; omega
        have hs := splitL_pow i (n % 2 ^ i + 2 ^ i) (by omega) (by omega)
        rw [show n - (n % 2 ^ i + 2 ^ i) = A by omega, mrootL_node (l.drop A) (by omega), hX, hs, List.drop_drop, show A + 2 ^ i = n - n % 2 ^ i by omega]
theorem troot_eq (n : Nat) (hs l : List (List Nat)) (h : TInv n hs l) (hn : n ≤ 65536) : trootL n hs = mrootL l := by
  unfold trootL
  rw [trSt_inv n hs l h 17 (Nat.le_refl _), Nat.mod_eq_of_lt (by omega)]
  by_cases h0 : n = 0
  · rw [if_pos h0, mrootL_zero l (by rw [h.len, h0])]
  · rw [if_neg h0, Nat.sub_self, List.drop_zero]
theorem ones_mod (n : Nat) : ∀ i, (∀ j, j < i → n / 2 ^ j % 2 = 1) → n % 2 ^ i + 1 = 2 ^ i
  | 0, _ => by simp [Nat.mod_one]
  | i + 1, h => by
    have ih := ones_mod n i (fun j hj => h j (by omega))
    rw [Nat.mod_pow_succ, h i (by omega), Nat.pow_succ]; omega
theorem take_drop_append {l l2 : List (List Nat)} {a m : Nat} (h : a + m ≤ l.length) : ((l ++ l2).drop a).take m = (l.drop a).take m := by
  rw [List.drop_append_of_le_length (by omega), List.take_append_of_le_length (by rw [List.length_drop]; omega)]
theorem apS_inv (n k : Nat) (hs l : List (List Nat)) (b : List Nat) (h : TInv n hs l) (hk : k ≤ 16) (h1 : ∀ j, j < k → n / 2 ^ j % 2 = 1) : ∀ i, i ≤ k → apS hs (leafL b) i = mrootL ((l ++ [b]).drop (n + 1 - 2 ^ i))
  | 0, _ => by
    have e : (l ++ [b]).drop (n + 1 - 2 ^ 0) = [b] := by
      rw [show n + 1 - 2 ^ 0 = l.length by rw [h.len]; simp]; exact List.drop_left ..
    rw [e, mrootL_one [b] rfl]; rfl
  | i + 1, hi => by
    have ih := apS_inv n k hs l b h hk h1 i (by omega)
    have hb := bit_parts n i
    have h1i := h1 i (by omega)
    have hat := h.at_ i (by omega) h1i
    have ho := ones_mod n i (fun j hj => h1 j (by omega))
    have hpos : 0 < 2 ^ i := Nat.pow_pos (by omega)
    have hpp : 2 ^ (i + 1) = 2 * 2 ^ i := by rw [Nat.pow_succ, Nat.mul_comm]
    rw [h1i, Nat.mul_one] at hb
    unfold chunkL at hat
    generalize hA : n / 2 ^ (i + 1) * 2 ^ (i + 1) = A at *
    have hA' : n + 1 - 2 ^ (i + 1) = A := by omega
    have hX : ((l ++ [b]).drop A).length = 2 ^ (i + 1) := by rw [List.length_drop, List.length_append, h.len]; simp; omega
    have hs' := splitL_pow i (2 ^ (i + 1)) (by omega) (Nat.le_refl _)
    have hlen := h.len
    rw [hA', mrootL_node _ (by rw [hX]; omega), hX, hs', take_drop_append (by omega), List.drop_drop]
    show nodeL (hs.getD i []) (apS hs (leafL b) i) = _
    rw [hat, ih, show A + 2 ^ i = n + 1 - 2 ^ i by omega]
theorem tinv_append (n k : Nat) (hs l : List (List Nat)) (b : List Nat) (h : TInv n hs l) (hk : k ≤ 16) (h1 : ∀ j, j < k → n / 2 ^ j % 2 = 1) (h0 : n / 2 ^ k % 2 = 0) :
    TInv (n + 1) (hs.set k (apS hs (leafL b) k)) (l ++ [b]) := by
  have ho := ones_mod n k h1
  have hpos : 0 < 2 ^ k := Nat.pow_pos (by omega)
  have hpp : 2 ^ (k + 1) = 2 * 2 ^ k := by rw [Nat.pow_succ, Nat.mul_comm]
  have hb := bit_parts n k
  rw [h0, Nat.mul_zero, Nat.add_zero] at hb
  have hlen := h.len
  have hok := apS_ok hs (leafL b) (leafL_length b) (sha_bytes _) k
  have hdiv : (n + 1) / 2 ^ (k + 1) = n / 2 ^ (k + 1) := by
    have hq : 0 < 2 ^ (k + 1) := by omega
    generalize hx : n / 2 ^ (k + 1) = q at *
    have : n + 1 = 2 ^ k + 2 ^ (k + 1) * q := by rw [Nat.mul_comm]; omega
    rw [this, Nat.add_mul_div_left _ _ hq, Nat.div_eq_of_lt (by omega), Nat.zero_add]
  refine ⟨by rw [List.length_append, hlen]; rfl, by rw [List.length_set]; exact h.hl, fun x hx => ?_, fun j hj hbit => ?_⟩
  · rcases List.mem_or_eq_of_mem_set hx with hx | rfl
    · exact h.hd x hx
    · exact hok
  · rcases Nat.lt_trichotomy j k with hjk | rfl | hjk
    · exfalso
      have hm : (n + 1) % 2 ^ k = 0 := by
        have := Nat.div_add_mod n (2 ^ k)
        have e : n + 1 = 2 ^ k * (n / 2 ^ k) + 2 ^ k := by omega
        rw [e]; simp
      obtain ⟨c, hc⟩ := Nat.dvd_of_mod_eq_zero hm
      have e2 : 2 ^ k = 2 ^ j * (2 * 2 ^ (k - j - 1)) := by
        rw [← Nat.pow_succ', ← Nat.pow_add]; congr 1; omega
      rw [hc, e2, Nat.mul_assoc, Nat.mul_div_cancel_left _ (Nat.pow_pos (by omega)), Nat.mul_assoc, Nat.mul_mod_right] at hbit
      omega
    · have hget : (hs.set j (apS hs (leafL b) j)).getD j [] = apS hs (leafL b) j := by
        have hl := h.hl
        simp [List.getD_eq_getElem?_getD, show j < hs.length by omega]
      rw [hget, apS_inv n j hs l b h hk h1 j (Nat.le_refl _)]
      unfold chunkL
      rw [hdiv]
      generalize hA : n / 2 ^ (j + 1) * 2 ^ (j + 1) = A at *
      rw [show A = n + 1 - 2 ^ j by omega, List.take_of_length_le]
      rw [List.length_drop, List.length_append, hlen]; simp; omega
    · have hget : (hs.set k (apS hs (leafL b) k)).getD j [] = hs.getD j [] := by
        simp [List.getD_eq_getElem?_getD, List.getElem?_set, show k ≠ j by omega]
      have hd2 : ∀ m, k < m → (n + 1) / 2 ^ m = n / 2 ^ m := fun m hm => by
        rw [show 2 ^ m = 2 ^ (k + 1) * 2 ^ (m - (k + 1)) by rw [← Nat.pow_add]; congr 1; omega, ← Nat.div_div_eq_div_mul, ← Nat.div_div_eq_div_mul, hdiv]
      have hbit' : n / 2 ^ j % 2 = 1 := by rw [← hd2 j hjk]; exact hbit
      rw [hget, h.at_ j hj hbit']
      unfold chunkL
      rw [hd2 (j + 1) (by omega)]
      have hbj := bit_parts n j
      rw [hbit', Nat.mul_one] at hbj
      rw [take_drop_append (by omega)]
theorem ones_ex (n : Nat) (hn : n < 65536) : ∃ k, k ≤ 16 ∧ (∀ j, j < k → n / 2 ^ j % 2 = 1) ∧ n / 2 ^ k % 2 = 0 := by
  have key : ∀ m, (∀ j, j < m → n / 2 ^ j % 2 = 1) ∨ ∃ k, k < m ∧ (∀ j, j < k → n / 2 ^ j % 2 = 1) ∧ n / 2 ^ k % 2 = 0 := by
    intro m
    induction m with
    | zero => exact .inl (fun j hj => by omega)
    | succ m ih =>
      rcases ih with h | ⟨k, hk, h1, h0⟩
      · rcases Nat.mod_two_eq_zero_or_one (n / 2 ^ m) with h0 | h1
        · exact .inr ⟨m, by omega, h, h0⟩
        · refine .inl fun j hj => ?_
          rcases Nat.lt_or_ge j m with hlt | hge
          · exact h j hlt
          · obtain rfl : j = m := by omega
            exact h1
      · exact .inr ⟨k, by omega, h1, h0⟩
  rcases key 17 with h | ⟨k, hk, h1, h0⟩
  · exfalso
    have := h 16 (by omega)
    rw [Nat.div_eq_of_lt (by omega)] at this
    omega
  · exact ⟨k, by omega, h1, h0⟩
end Go.Proofs.YtediocpdpghbfaaDoor
