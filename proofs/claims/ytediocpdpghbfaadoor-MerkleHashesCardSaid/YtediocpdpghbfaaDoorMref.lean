/- Merkle: the reference's hashes of leaves and of nodes. -/
import Derived.Test.YtediocpdpghbfaaDoorMlea
import Derived.Deep.RegionLaw
set_option linter.unusedSimpArgs false
set_option linter.unusedVariables false
namespace Go.Proofs.YtediocpdpghbfaaDoor
open Go Go.RowKit

theorem step_of_list {P : Program} {ops : Array Oper} {Q : Exit → Act → World → Prop} {o : Oper} {a : Act} {w : World} {K : Act → World → Prop} {E : Prop} (hg : o.guard = none)
    (h : ∀ K' : Exit → Act → World → Prop, (∀ a w, K a w → K' .normal a w) → wpList P ops K' [o] a w) : if Region.wanted o (yielded ops a.tmps) = true then Oper.wp P o a w K Q else E := by
  have hw : Region.wanted o (yielded ops a.tmps) = true := by simp [Region.wanted, hg]
  rw [if_pos hw]
  have h1 := h (fun e a w => e = .normal ∧ K a w) (fun a w hk => ⟨rfl, hk⟩)
  unfold wpList at h1
  rw [if_pos hw] at h1
  rcases h1 with h1 | ⟨_, a', w', h1⟩
  · unfold Oper.wp at *
    generalize (execOp a.eval o).run P w = r at *
    cases r with
    | ok n w' =>
      cases n <;> simp only [Oper.upon, wpList] at h1 ⊢ <;>
        first
          | exact h1.2
          | (refine Calls.mono h1 fun e w'' he => ?_
             cases e with
             | returned u => exact he.2
             | panicked c => exact absurd he.1 (by simp)
             | outgrown => obtain ⟨a', w3, h3⟩ := he; exact absurd h3.1 (by simp))
          | exact Rows.mono h1 (fun _ _ he => he.2)
    | halt x w' => cases x <;> simp only [Oper.upon] at h1 ⊢ <;> first | exact h1 | exact absurd h1.1 (by simp)
  · exact absurd h1.1 (by simp)
theorem step_app8 {w : World} {ops : Array Oper} {o : Oper} {a : Act} {Q : Exit → Act → World → Prop} {K : Act → World → Prop} {E : Prop} (hgd : o.guard = none) (s x : Operand)
    (ho : o.op = .call { callee := .builtin .append, args := #[s, x], argTypes := #[22, 22] }) (base : Nat) (A : Option Addr) (n cap : Nat) (l : List Nat) (hs : a.eval s = .slice A n cap) (hown : OB w base A n cap l)
    (A2 : Option Addr) (m c2 : Nat) (l2 : List Nat) (hx : a.eval x = .slice A2 m c2) (hl2 : l2.length = m) (hr : RW w A2 c2 l2) (hlen : n + m ≤ 140737488355328) (hbase : base ≤ w.heap.size)
    (h : ∀ A' cap' w', OB w' base A' (n + m) cap' (l ++ l2) → Below base w w' → K (a.put o.dst (.slice A' (n + m) cap')) w') : if Region.wanted o (yielded ops a.tmps) = true then Oper.wp Tryd.prog o a w K Q else E :=
  step_of_list hgd fun K' hK => wpList_app8 hgd s x ho base A n cap l hs hown A2 m c2 l2 hx hl2 hr hlen hbase fun A' cap' w' hO hB _ => hK _ _ (h A' cap' w' hO hB)
theorem store24_run {w : World} {S : Nat} {d d' : List Nat} (h : Blk w S 24 (u8s d)) (hl : d.length = 32) (hl' : d'.length = 32) :
    (storeAgg 24 (.pointer (some ⟨S, 0, none⟩)) (.agg (u8s d'))).run Tryd.prog w = .ok () (w.setRow S (u8s d')) := by
  have := storeAgg_run (P := Tryd.prog) (ty := 24) (off := 0) (cur := (u8s d).toList) (u8s d') (by rw [Array.toArray_toList]; exact h) (size24 d' hl') (by rw [u8s_size, hl', Array.length_toList, u8s_size, hl]; omega) (u8s_one _)
  rw [this, List.drop_eq_nil_of_le (by rw [Array.length_toList, u8s_size, u8s_size, hl, hl']; omega), List.take_zero, List.nil_append, List.append_nil, Array.toArray_toList]
attribute [local go_sem ↓] ld32 ld24 st24
set_option maxRecDepth 100000 in
set_option maxHeartbeats 2000000 in
theorem rleaf_any (w : World) (b : List Nat) (A : Option Addr) (n cap : Nat) (hn : b.length = n) (hcap : n ≤ cap) (hlen : n ≤ 900000) (hB : Bytes b) (hr : RW w A cap b) :
    Calls Tryd.prog 40 #[.agg (u32s TT), .slice A n cap] w fun e w' => e = .returned (.agg (u8s (leafL b))) ∧ Below w.heap.size w w' := by
  obtain ⟨g, hg⟩ : ∃ g, w.heap.size = g := ⟨_, rfl⟩
  obtain ⟨W, hW⟩ : ∃ W, W = (w.alloc (.cells (u32s TT) 32)).alloc (.cells (u8s (zer 32)) 24) := ⟨_, rfl⟩
  have E1 : Blk W g 32 (u32s TT) := by rw [hW, ← hg]; exact (Blk.new _ _ _).alloc _
  have E2 : Blk W (g + 1) 24 (u8s (zer 32)) := by rw [hW, ← hg]; exact Blk.new1 _ _ _ _
  have B0 : Below g w W := by rw [hW, ← hg]; exact ((Below.refl _ _).alloc (Nat.le_refl _) _).alloc (by simp) _
  have hsz : W.heap.size = g + 1 + 1 := by rw [hW, ← hg]; simp
  have HE := Lib.hid (And.intro E1 (And.intro E2 (And.intro B0 (And.intro hsz (And.intro hn (bytes_cons (show 0 < 256 by omega) hB))))))
  have HR := Lib.hid ((hr.below (hg.symm ▸ B0)))
  have O0 : OB (W.alloc (.cells #[.int .u8 0] 5)) W.heap.size (some ⟨W.heap.size, 0, none⟩) 1 1 [0] := ob_one W 0
  have HO := Lib.hid O0
  clear O0
  have hl0 : (0 :: b).length = 1 + n := by simp [hn]; omega
  have hd := leafL_length b
  have l1 := load32_run E1.drew
  have HS := Lib.hid (fun W Z cz (hz : 1 + n ≤ cz) (hr : RW W Z cz (0 :: b)) => rsum_any W (0 :: b) Z cz (by rw [hl0]; exact hz) HE.out.2.2.2.2.2 hr (by rw [hl0]; omega))
  rw [hl0] at HS
  rw [show sha (0 :: b) = leafL b from rfl] at HS
  clear E1 E2 B0 hsz hn hB hr hl0
  generalize leafL b = d at *
  go_enter Tryd.func40, Tryd.ntmps40
  go_wp2_with fail
  change Code.wp _ _ _ _ ((w.alloc (.cells (u32s TT) 32)).alloc (.cells (u8s (zer 32)) 24))
  rw [← hW]
  have HG := Lib.hid hg
  clear hW hg
  have l2 := load32_run (HE.out.1.alloc (.cells #[.int .u8 0] 5)).drew
  go_region_law (first
    | (refine step_app8 (by rfl) (.tmp 6) (.tmp 7) (by rfl) W.heap.size (some ⟨W.heap.size, 0, none⟩) 1 1 [0] (by rfl) HO.out.drew A n cap b (by rfl) HE.out.2.2.2.2.1 ((HR.out.alloc _).drew) (by omega) (by simp) ?_; intro A1 c1 w1 O1 B1; have l3 := load32_run ((HE.out.1.alloc _).drew.below B1 HE.out.1.lt); have H1 := Lib.hid (And.intro O1 B1); clear O1 B1)
    | (rw [if_pos (by rfl)]; go_simp; go_at_call 21; refine (HS.out _ _ _ H1.out.1.cap_le H1.out.1.rw).mono ?_; rintro e w2 ⟨rfl, B2⟩; have E3 := ((HE.out.2.1.alloc _).drew.below H1.out.2 HE.out.2.1.lt).below B2 (((HE.out.2.1.alloc _).drew.below H1.out.2 HE.out.2.1.lt).lt); have s3 := store24_run E3 rfl hd; have H2 := Lib.hid (And.intro B2 E3); clear B2 E3))
  all_goals
    go_wp2_with fail
    have hgW : g ≤ W.heap.size := HE.out.2.2.1.size |> (HG.out ▸ ·)
    have hW1 : W.heap.size ≤ w1.heap.size := Nat.le_trans (by simp) H1.out.2.size
    refine bodyPost_ret (v := .agg (u8s d)) (results_cell_row rfl _ _ (g + 1) 24 _ (0, 0) _ rfl (H2.out.2.setRow _) Tryd.underlying24 rfl (size24 _ hd)) rfl ⟨rfl, ?_⟩
    rw [HG.out]
    exact below_setRow' (((HE.out.2.2.1.alloc hgW _).drew).trans ((H1.out.2.mono hgW).trans (H2.out.1.mono (Nat.le_trans hgW hW1)))) (by omega) _

set_option maxRecDepth 100000 in
set_option maxHeartbeats 4000000 in
theorem rnode_any (w : World) (a b : List Nat) (ha : a.length = 32) (hb : b.length = 32) (hA : Bytes a) (hB : Bytes b) :
    Calls Tryd.prog 76 #[.agg (u32s TT), .agg (u8s a), .agg (u8s b)] w fun e w' => e = .returned (.agg (u8s (nodeL a b))) ∧ Below w.heap.size w w' := by
  obtain ⟨g, hg⟩ : ∃ g, w.heap.size = g := ⟨_, rfl⟩
  obtain ⟨W, hW⟩ : ∃ W, W = (((w.alloc (.cells (u32s TT) 32)).alloc (.cells (u8s a) 24)).alloc (.cells (u8s b) 24)).alloc (.cells (u8s (zer 32)) 24) := ⟨_, rfl⟩
  have E1 : Blk W g 32 (u32s TT) := by rw [hW, ← hg]; exact (((Blk.new _ _ _).alloc _).alloc _).alloc _
  have E2 : Blk W (g + 1) 24 (u8s a) := by rw [hW, ← hg]; exact ((Blk.new1 _ _ _ _).alloc _).alloc _
  have E3 : Blk W (g + 1 + 1) 24 (u8s b) := by rw [hW, ← hg]; exact (Blk.new2 _ _ _ _ _).alloc _
  have E4 : Blk W (g + 1 + 1 + 1) 24 (u8s (zer 32)) := by rw [hW, ← hg]; exact Blk.new3 _ _ _ _ _ _
  have B0 : Below g w W := by rw [hW, ← hg]; exact ((((Below.refl _ _).alloc (Nat.le_refl _) _).alloc (by simp) _).alloc (by simp only [size1]; omega) _).alloc (by simp only [size1]; omega) _
  have hB1 := bytes_cons (show 1 < 256 by omega) (hA.append hB)
  have hl0 : (1 :: (a ++ b)).length = 65 := by simp [ha, hb]
  have HE := Lib.hid (And.intro E1 (And.intro E2 (And.intro E3 (And.intro E4 B0))))
  have O0 : OB (W.alloc (.cells #[.int .u8 1] 5)) W.heap.size (some ⟨W.heap.size, 0, none⟩) 1 1 [1] := ob_one W 1
  have HO := Lib.hid O0
  have hd := nodeL_length a b
  have l1 := load32_run E1.drew
  have l2 := load32_run (E1.alloc (.cells #[.int .u8 1] 5)).drew
  have HS := Lib.hid (fun W Z cz (hz : 65 ≤ cz) (hr : RW W Z cz (1 :: (a ++ b))) => rsum_any W (1 :: (a ++ b)) Z cz (by rw [hl0]; exact hz) hB1 hr (by rw [hl0]; omega))
  rw [hl0] at HS
  rw [show sha (1 :: (a ++ b)) = nodeL a b from rfl] at HS
  have s1 := fun W => sl24 W (g + 1)
  have s2 := fun W => sl24 W (g + 1 + 1)
  clear E1 E2 E3 E4 B0 hA hB hB1 hl0 O0
  generalize nodeL a b = d at *
  go_enter Tryd.func76, Tryd.ntmps76
  go_wp2_with fail
  change Code.wp _ _ _ _ ((((w.alloc (.cells (u32s TT) 32)).alloc (.cells (u8s a) 24)).alloc (.cells (u8s b) 24)).alloc (.cells (u8s (zer 32)) 24))
  rw [← hW]
  have HG := Lib.hid hg
  clear hW hg
  go_region_law (first
    | (refine step_app8 (by rfl) (.tmp 8) (.tmp 9) (by rfl) W.heap.size (some ⟨W.heap.size, 0, none⟩) 1 1 [1] (by rfl) HO.out.drew (some ⟨g + 1, 0, none⟩) 32 32 a (by rfl) ha ((HE.out.2.1.alloc _).drew.rw) (by omega) (by simp) ?_; intro A1 c1 w1 O1 B1; have l3 := load32_run ((HE.out.1.alloc _).drew.below B1 HE.out.1.lt); have H1 := Lib.hid (And.intro O1 B1); clear O1 B1)
    | (refine step_app8 (by rfl) (.tmp 10) (.tmp 11) (by rfl) W.heap.size A1 33 c1 ([1] ++ a) (by rfl) H1.out.1 (some ⟨g + 1 + 1, 0, none⟩) 32 32 b (by rfl) hb (((HE.out.2.2.1.alloc _).drew.below H1.out.2 HE.out.2.2.1.lt).rw) (by omega) (Nat.le_trans (by simp) H1.out.2.size) ?_; intro A2 c2 w2 O2 B2; have l4 := load32_run (((HE.out.1.alloc _).drew.below H1.out.2 HE.out.1.lt).below B2 HE.out.1.lt); have H2 := Lib.hid (And.intro O2 (H1.out.2.trans B2)); clear O2 B2)
    | (rw [if_pos (by rfl)]; go_simp; go_at_call 21; refine (HS.out _ _ _ H2.out.1.cap_le H2.out.1.rw).mono ?_; rintro e w3 ⟨rfl, B3⟩; have E5 := ((HE.out.2.2.2.1.alloc _).drew.below H2.out.2 HE.out.2.2.2.1.lt).below B3 (((HE.out.2.2.2.1.alloc _).drew.below H2.out.2 HE.out.2.2.2.1.lt).lt); have s3 := store24_run E5 rfl hd; have H3 := Lib.hid (And.intro B3 E5); clear B3 E5))
  all_goals
    go_wp2_with fail
    have hgW : g ≤ W.heap.size := HE.out.2.2.2.2.size |> (HG.out ▸ ·)
    have hW1 : W.heap.size ≤ w2.heap.size := Nat.le_trans (by simp) H2.out.2.size
    refine bodyPost_ret (v := .agg (u8s d)) (results_cell_row rfl _ _ (g + 1 + 1 + 1) 24 _ (0, 0) _ rfl (H3.out.2.setRow _) Tryd.underlying24 rfl (size24 _ hd)) rfl ⟨rfl, ?_⟩
    rw [HG.out]
    exact below_setRow' (((HE.out.2.2.2.2.alloc hgW _).drew).trans ((H2.out.2.mono hgW).trans (H3.out.1.mono (Nat.le_trans hgW hW1)))) (by omega) _
end Go.Proofs.YtediocpdpghbfaaDoor
