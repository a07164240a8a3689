/- The law of MerkleVerifyConsistency: the walk. -/
import Derived.Test.YtediocpdpghbfaaDoorMrsu
import Derived.Test.YtediocpdpghbfaaDoorMrvc
import Derived.Test.YtediocpdpghbfaaDoorMchg
import Derived.Test.YtediocpdpghbfaaDoorMkno
import Derived.Deep.DeepCutAuto
set_option linter.unusedSimpArgs false
set_option linter.unusedVariables false
namespace Go.Proofs.YtediocpdpghbfaaDoor
open Go Go.RowKit

theorem idx_nat1 (x : Int) (m : Nat) (hx : 0 ≤ x) (h20 : m ≤ 20) : ∃ i : Nat, i ≤ m ∧ wrap64 (x.tmod ((m : Int) + 1)) = i ∧ wrap64 (x % ((m : Int) + 1)) = i := by
  have h1 := Int.emod_nonneg x (show ((m : Int) + 1) ≠ 0 by omega)
  have h2 := Int.emod_lt_of_pos x (show (0 : Int) < (m : Int) + 1 by omega)
  refine ⟨(x % ((m : Int) + 1)).toNat, by omega, ?_, ?_⟩
  · rw [Int.tmod_eq_emod_of_nonneg hx, IntWalk.wrap64_in _ (by omega)]; omega
  · rw [IntWalk.wrap64_in _ (by omega)]; omega
theorem pw_below {w w' : World} {A : Option Addr} {ps : List (List Nat)} (h : PW w A ps) (hb : Below w.heap.size w w') : PW w' A ps := by
  rcases h with h | ⟨g, off, hA, hg, hc⟩
  · exact .inl h
  · refine .inr ⟨g, off, hA, Nat.lt_of_lt_of_le hg hb.size, fun j hj => ?_⟩
    obtain ⟨Aj, cj, c1, c2, c3, c4, c5⟩ := hc j hj
    exact ⟨Aj, cj, (hb.cell (p := ⟨g, off + j, none⟩) hg).trans c1, c2, c3, c4, c5.below hb⟩
theorem sl41_hG (A : Option Addr) (n cap k : Nat) (hk : k ≤ cap) (w : World) :
    (Instr.sliceAt 41 (.slice A n cap) none (some (.int .i64 (k : Int))) none).run Tryd.prog w = .ok (.slice A k cap) w := by
  have hs := size22
  rw [run_sliceAt_slice w 41 _ _ _ _ (by rw [elem41]; exact Tryd.underlying41), run_slice_h w 41 _ n cap (by rw [elem41]; exact Tryd.underlying41) .i64 k (by omega) (by omega)]
  cases hq : Tryd.prog.info? 22 with
  | none => simp [hq] at hs
  | some i =>
    have hi : i.size = 1 := by simpa [hq] using hs
    cases A <;> simp [elem41, sizeOf, typeInfo, hq, hi, sliced, Addr.add]

theorem consL_digs' (l : List (List Nat)) (n i : Nat) (hl : l.length = n) (hi : i ≤ n) : Digs (consL l i) ∧ (consL l i).length ≤ n := by
  unfold consL
  by_cases h : i = 0 ∨ i = l.length
  · rw [if_pos h]; exact ⟨Digs.nil, Nat.zero_le _⟩
  · rw [if_neg h]; exact subL_digs n l i true hl (by omega) hi
def badC (m n : Int) : Bool := decide (n < 0 ∨ 65536 < n ∨ m < 0 ∨ n < m)
def verConI (old new : List Nat) (m n : Int) (ps : List (List Nat)) : Int := if badC m n = true then 2 else verConL old new m.toNat n.toNat ps
theorem badC_no {m n : Int} (h : badC m n = false) : ∃ a b : Nat, m = a ∧ n = b ∧ b ≤ 65536 ∧ a ≤ b := by
  unfold badC at h
  rw [decide_eq_false_iff_not] at h
  exact ⟨m.toNat, n.toNat, by omega, by omega, by omega, by omega⟩
theorem mvcons_all (w : World) (hT : Tabs w) (old new : List Nat) (ho : old.length = 32) (hnw : new.length = 32) (hoB : Bytes old) (m n : Int) (ps : List (List Nat)) (P : Option Addr) (k pc : Nat) (hk : ps.length = k) (hk2 : k ≤ 100000) (hkp : k ≤ pc) (hpc : pc ≤ 9223372036854775807) (hd : Digs ps) (hP : LV w P (hcell ps)) :
    Calls Tryd.prog 58 #[.agg (u8s old), .agg (u8s new), .int .i64 m, .int .i64 n, .slice P k pc] w fun e w' => e = .returned (.int .i64 (verConI old new m n ps)) ∧ Below w.heap.size w w' := by
  unfold verConI
  cases hb : badC m n with
  | true => rw [if_pos rfl]; exact mvcons_bad w hT old new m n (by unfold badC at hb; exact of_decide_eq_true hb) _
  | false =>
    obtain ⟨a, b, rfl, rfl, h1, h2⟩ := badC_no hb
    rw [if_neg (by simp)]
    exact mvcons_any w hT old new ho hnw hoB a b h1 h2 ps P k pc hk hk2 hkp hpc hd hP
theorem rvcons_all (w : World) (old new : List Nat) (ho : old.length = 32) (hnw : new.length = 32) (hoB : Bytes old) (m n : Int) (ps : List (List Nat)) (P : Option Addr) (k pc : Nat) (hk : ps.length = k) (hk2 : k ≤ 100000) (hkp : k ≤ pc) (hpc : pc ≤ 9223372036854775807) (hd : Digs ps) (hP : LV w P (hcell ps)) :
    Calls Tryd.prog 59 #[.agg (u32s TT), .agg (u8s old), .agg (u8s new), .int .i64 m, .int .i64 n, .slice P k pc] w fun e w' => e = .returned (.int .i64 (verConI old new m n ps)) ∧ Below w.heap.size w w' := by
  unfold verConI
  cases hb : badC m n with
  | true => rw [if_pos rfl]; exact rvcons_bad w old new m n (by unfold badC at hb; exact of_decide_eq_true hb) _
  | false =>
    obtain ⟨a, b, rfl, rfl, h1, h2⟩ := badC_no hb
    rw [if_neg (by simp)]
    exact rvcons_any w old new ho hnw hoB a b h1 h2 ps P k pc hk hk2 hkp hpc hd hP
/-- what lies fast in the law's world -/
structure VcS (w W : World) (gt : Nat) (z0 z1 : Int) (kd aa bb : Nat) (A : Option Addr) (q : List (List Nat)) : Prop where
  z : Blk W w.heap.size 82 #[.int .i64 z0, .int .i64 z1]
  c : Blk W (w.heap.size + 1) 84 #[.int .u8 (kd : Int), .int .u8 (aa : Int), .int .u8 (bb : Int)]
  t : Blk W gt 32 (u32s TT)
  p : PL W A q
  a : At w W
theorem VcS.step {w W W' : World} {gt : Nat} {z0 z1 : Int} {kd aa bb : Nat} {A : Option Addr} {q : List (List Nat)} (h : VcS w W gt z0 z1 kd aa bb A q) (b : Below W.heap.size W W') : VcS w W' gt z0 z1 kd aa bb A q :=
  ⟨h.z.below b h.z.lt, h.c.below b h.c.lt, h.t.below b h.t.lt, h.p.below b, h.a.step b⟩
theorem two_new (w : World) (a b : List Nat) (ha : a.length = 32) (hb : b.length = 32) :
    Blk ((((w.alloc (.cells (u8s (zer 32)) 25)).alloc (.cells (u8s (zer 32)) 25)).setRow w.heap.size (u8s a)).setRow (w.heap.size + 1) (u8s b)) w.heap.size 25 (u8s a) ∧
    Blk ((((w.alloc (.cells (u8s (zer 32)) 25)).alloc (.cells (u8s (zer 32)) 25)).setRow w.heap.size (u8s a)).setRow (w.heap.size + 1) (u8s b)) (w.heap.size + 1) 25 (u8s b) ∧
    Below w.heap.size w ((((w.alloc (.cells (u8s (zer 32)) 25)).alloc (.cells (u8s (zer 32)) 25)).setRow w.heap.size (u8s a)).setRow (w.heap.size + 1) (u8s b)) := by
  have F1 : Blk ((w.alloc (.cells (u8s (zer 32)) 25)).alloc (.cells (u8s (zer 32)) 25)) w.heap.size 25 (u8s (zer 32)) := (Blk.new _ _ _).alloc _
  have F2 : Blk (((w.alloc (.cells (u8s (zer 32)) 25)).alloc (.cells (u8s (zer 32)) 25)).setRow w.heap.size (u8s a)) (w.heap.size + 1) 25 (u8s (zer 32)) := (Blk.new1 _ _ _ _).farRow (by omega) _
  exact ⟨(F1.setRow (u8s a)).farRow (by omega) _, F2.setRow _, below_setRow' (below_setRow' (((Below.refl _ _).alloc (Nat.le_refl _) _).alloc (by simp) _) (Nat.le_refl _) _) (by omega) _⟩
theorem one_byte : digL [1] = digL [1] := rfl
theorem rw_one (w : World) (x : Nat) : RW (w.alloc (.cells #[.int .u8 (x : Int)] 5)) (some ⟨w.heap.size, 0, none⟩) 1 [x] := OB.rw (ob_one w x)
attribute [local go_sem ↓] ld25 st25 ld32 st32 ld24 st24 alc25_rule ld87 st87 alc87_rule bld87_rule bs67_rule
attribute [local go_sem] alc25_run alc87_run
set_option maxRecDepth 100000 in
set_option maxHeartbeats 16000000 in
theorem law_merkleVerifyConsistency (w : World) (hT : Tabs w) (z0 z1 : Int) (hz1 : -9223372036854775808 ≤ z0) (hz2 : z0 ≤ 9223372036854775807) (kd aa bb : Nat) (hkd : kd < 256) (haa : aa < 256) (hbb : bb < 256)
    (ps : List (List Nat)) (A : Option Addr) (ca n : Nat) (ln : ps.length = n) (ha : n ≤ ca) (hca : ca ≤ 9223372036854775807) (hp : PW w A ps) :
    Calls Tryd.prog 16 #[.slice A n ca, .agg #[.int .i64 z0, .int .i64 z1], .agg #[.int .u8 kd, .int .u8 aa, .int .u8 bb]] w fun e w' => e = .returned (.bool true) ∧ Below w.heap.size w w' := by
  have H0 := Lib.hid (And.intro hT (And.intro ln hp))
  clear hT ln hp
  have Z0 := Lib.hid (show Blk ((w.alloc (.cells #[.int .i64 z0, .int .i64 z1] 82)).alloc (.cells #[.int .u8 (kd : Int), .int .u8 (aa : Int), .int .u8 (bb : Int)] 84)) w.heap.size 82 #[.int .i64 z0, .int .i64 z1] from (Blk.new _ _ _).alloc _)
  have C0 := Lib.hid (show Blk ((w.alloc (.cells #[.int .i64 z0, .int .i64 z1] 82)).alloc (.cells #[.int .u8 (kd : Int), .int .u8 (aa : Int), .int .u8 (bb : Int)] 84)) (w.heap.size + 1) 84 #[.int .u8 (kd : Int), .int .u8 (aa : Int), .int .u8 (bb : Int)] from Blk.new1 _ _ _ _)
  have A0 := Lib.hid (At.mk H0.out.1 (((Below.refl w.heap.size w).alloc (Nat.le_refl _) (.cells #[.int .i64 z0, .int .i64 z1] 82)).alloc (by simp) (.cells #[.int .u8 (kd : Int), .int .u8 (aa : Int), .int .u8 (bb : Int)] 84)))
  go_enter Tryd.func16, Tryd.ntmps16
  go_wp2_with fail
  generalize (w.alloc (.cells #[.int .i64 z0, .int .i64 z1] 82)).alloc (.cells #[.int .u8 (kd : Int), .int .u8 (aa : Int), .int .u8 (bb : Int)] 84) = w0 at *
  refine (mknown_any _ A0.out.t).mono ?_
  rintro e w1 ⟨rfl, B1⟩
  have A1 := Lib.hid (And.intro (A0.out.step B1) (And.intro (Z0.out.below B1 Z0.out.lt) (C0.out.below B1 C0.out.lt)))
  clear B1 A0 Z0 C0
  go_wp2_with fail
  refine (rmake_any _).mono ?_
  rintro e w2 ⟨rfl, B2⟩
  have A2 := Lib.hid (And.intro (A1.out.1.step B2) (And.intro (A1.out.2.1.below B2 A1.out.2.1.lt) (A1.out.2.2.below B2 A1.out.2.2.lt)))
  clear B2 A1
  go_wp2_with (refine wpList_fillM rfl 32 (.tmp 7) (.tmp 23) rfl (u32s TT) rfl rfl (size32 _ TT_length) (by rw [u32s_size, TT_length]; rfl) (u32s_one _) ?_; intro w3 E3 B3; have A3 := Lib.hid (And.intro E3 (And.intro (A2.out.1.step B3) (And.intro (A2.out.2.1.below B3 A2.out.2.1.lt) (A2.out.2.2.below B3 A2.out.2.2.lt)))); clear E3 B3)
  generalize w2.heap.size = gt at *
  clear A2
  refine (few_any w3 ps A ca n H0.out.2.1 ha hca (pw_below H0.out.2.2 A3.out.2.1.b)).mono ?_
  rintro e w4 ⟨A', c', vs, rfl, O4, V4, B4⟩
  have hm20 : (fewL ps).length ≤ 20 := by rw [fewL_length]; omega
  have hcc := O4.cap'
  have M4 := Lib.hid (show VcS w w4 gt z0 z1 kd aa bb A' (fewL ps) from ⟨A3.out.2.2.1.below B4 A3.out.2.2.1.lt, A3.out.2.2.2.below B4 A3.out.2.2.2.lt, A3.out.1.below B4 A3.out.1.lt, pl_of O4.lv V4, A3.out.2.1.step B4⟩)
  clear O4 V4 B4 A3
  generalize fewL ps = q at *
  obtain ⟨m, hm⟩ : ∃ m, q.length = m := ⟨_, rfl⟩
  rw [hm] at hm20 hcc ⊢
  have HM := Lib.hid hm
  clear hm
  have hc'' : c' ≤ 9223372036854775807 := by have := hcc.2; unfold maxLen at this; omega
  go_upto_region 5 with (fail)
  have y0 := M4.out.z.cell 0
  have y1 := M4.out.z.cell 1
  simp only [List.getElem?_toArray, List.getElem?_cons_zero, List.getElem?_cons_succ] at y0 y1
  go_cut [8, 9] (fun v8 v9 wx => v8 = .int .i64 z0 ∧ v9 = .int .i64 z1 ∧ wx = w4.drew)
  case first =>
    refine wp_region_sego [0, 0, 0, 0, 0, 0] [] (by kernel_rfl) (by kernel_rfl) (fun _ _ d _ _ h => by cases d <;> exact h) (sego_end fun K0 hK0 => ?_)
    simp only [pickC, ↓reduceIte, Nat.reduceEqDiff, Nat.reduceAdd]
    go_wp2_with fail
    refine hK0.out _ ?_
    clear hK0 K0
    go_wp2_with fail
    go_meet
    exact ⟨rfl, rfl, rfl⟩
  case rest =>
  obtain ⟨rfl, rfl, rfl⟩ := hcut
  clear y0 y1
  have M5 := Lib.hid (M4.out.step (Below.refl _ _).drew)
  clear M4
  generalize w4.drew = w5 at *
  go_wp2_with fail
  go_loopg [10, 11] m (fun f pv iv wr => ∃ (i : Nat) (P : Option Addr) (pc : Nat) (hs : List (List Nat)), i + f = m ∧ pv = .slice P i pc ∧ iv = .int .i64 i ∧ hs.length = i ∧ Digs hs ∧ OW wr w5.heap.size 25 32 P i pc (hcell hs) ∧ Below w5.heap.size w5 wr)
  case atStart => exact ⟨0, none, 0, [], by omega, rfl, rfl, rfl, Digs.nil, ow_nil _ _ _ _, Below.refl _ _⟩
  case round =>
  obtain ⟨i, P, pc, hs, hif, rfl, rfl, hl, hd, O, B0⟩ := hrel
  by_cases hi : i < m
  · have hpl := (M5.out.step B0).p
    rcases hpl with hnil | ⟨g, off, rfl, hg, hc⟩
    · have := HM.out; rw [hnil] at this; simp at this; omega
    obtain ⟨Aj, cj, c1, c2, c3, c4, c5⟩ := hc i (by rw [HM.out]; omega)
    obtain ⟨x, hx⟩ : ∃ x, (q.getD i []).length = x := ⟨_, rfl⟩
    rw [hx] at c1 c2
    have hdo : (digL (q.getD i [])).length = 32 ∧ Bytes (digL (q.getD i [])) := ⟨digL_length _, digL_bytes _ c4⟩
    have HD := Lib.hid (digest_any wr (q.getD i []) Aj x cj hx c2 c4 c5)
    have HE := Lib.hid (And.intro hif (And.intro hl (And.intro hd (And.intro O B0))))
    clear hif hl hd O B0 hc c4 c5 hx c2 c3
    generalize digL (q.getD i []) = dg at *
    go_wp2_with fail
    refine HD.out.mono ?_
    rintro e w6 ⟨rfl, B6⟩
    have O6 := Lib.hid (And.intro (OW.below' HE.out.2.2.2.1 B6) (HE.out.2.2.2.2.trans (B6.mono HE.out.2.2.2.2.size)))
    have hd32 := hdo.1
    clear B6 HD c1
    have b1 := bs67_run dg hd32
    go_wp2_with (at_builtin; refine wpList_appW 67 25 (.agg (u8s (zer 32))) 32 32 Tryd.underlying67 info25 rfl (by decide) rfl (.tmp 36) (.tmp 42) rfl w5.heap.size P i pc (hcell hs) rfl (O6.out.1.alloc _) (some ⟨w6.heap.size, 0, none⟩) 1 1 (bvals dg) rfl (by rw [bvals_length, hd32]) (by intro e; cases e) (by rw [← u8s_bvals]; exact lv_blk (Blk.new w6 25 (u8s dg))) (bvals_one dg) (by omega) (by omega) (by have := O6.out.2.size; simp; omega) ?_; intro P1 c1 w7 O7 B7; have H7 := Lib.hid (And.intro O7 B7); clear O7 B7)
    go_roundg (gk - 1)
    case measure => have := HE.out.1; omega
    case rel =>
      obtain ⟨hif, hl, hd, O, B0⟩ := HE.out
      obtain ⟨O7, B7⟩ := H7.out
      exact ⟨i + 1, P1, c1, hs ++ [dg], by omega, rfl, by go_num, by rw [List.length_append, hl]; rfl, hd.snoc hdo.1 hdo.2, by rw [hcell_snoc]; exact O7, (O6.out.2.alloc (by have := O6.out.2.size; omega) _).trans B7⟩
  obtain rfl : m = i := by omega
  have HE := Lib.hid (And.intro hl (And.intro hd (And.intro O.lv (And.intro (M5.out.step B0) O.cap'))))
  clear hl hd O B0 hi hif M5
  go_wp2_with fail
  refine (digest_any _ [] none 0 0 rfl (Nat.le_refl _) Bytes.nil (rw_nil _)).mono ?_
  rintro e w6 ⟨rfl, B6⟩
  have G6 := Lib.hid (And.intro (HE.out.2.2.1.below B6) (HE.out.2.2.2.1.step B6))
  have hda : (digL []).length = 32 ∧ Bytes (digL []) := ⟨digL_length _, digL_bytes _ Bytes.nil⟩
  have hdb : (digL [1]).length = 32 ∧ Bytes (digL [1]) := ⟨digL_length _, digL_bytes _ (Bytes.of_mem (by simp))⟩
  clear B6
  generalize digL [] = d0 at *
  go_wp2_with fail
  refine (digest_any _ [1] (some ⟨w6.heap.size, 0, none⟩) 1 1 rfl (Nat.le_refl _) (Bytes.of_mem (by simp)) (rw_one w6 1)).mono ?_
  rintro e w7 ⟨rfl, B7⟩
  have hb7 := ((Below.refl w6.heap.size w6).alloc (Nat.le_refl _) (.cells #[.int .u8 ((1 : Nat) : Int)] 5)).trans (B7.mono (by simp))
  have G7 := Lib.hid (And.intro (G6.out.1.below hb7) (G6.out.2.step hb7))
  clear B7 hb7 G6
  generalize digL [1] = d1 at *
  have F1 : Blk ((w7.alloc (.cells (u8s (zer 32)) 25)).alloc (.cells (u8s (zer 32)) 25)) w7.heap.size 25 (u8s (zer 32)) := (Blk.new _ _ _).alloc _
  have F2 : Blk (((w7.alloc (.cells (u8s (zer 32)) 25)).alloc (.cells (u8s (zer 32)) 25)).setRow w7.heap.size (u8s d0)) (w7.heap.size + 1) 25 (u8s (zer 32)) := (Blk.new1 _ _ _ _).farRow (by omega) _
  have s1 := store25_run F1 rfl hda.1
  have s2 := store25_run F2 rfl hdb.1
  clear F1 F2
  go_upto_region 12 with (fail)
  clear s1 s2
  obtain ⟨D1, D2, B8⟩ := two_new w7 d0 d1 hda.1 hdb.1
  generalize (((w7.alloc (.cells (u8s (zer 32)) 25)).alloc (.cells (u8s (zer 32)) 25)).setRow w7.heap.size (u8s d0)).setRow (w7.heap.size + 1) (u8s d1) = w8 at *
  have G8 := Lib.hid (And.intro (G7.out.1.below B8) (And.intro (G7.out.2.step B8) (And.intro D1 D2)))
  have HD := Lib.hid (And.intro hda hdb)
  clear D1 D2 B8 G7 hda hdb
  generalize w7.heap.size = ga at *
  go_cut [61] (fun v wx => v = .bool false ∧ VcS w wx gt z0 z1 kd aa bb A' q)
  case first =>
    have M := Lib.hid (And.intro (G8.out.1.below (Below.refl _ _).drew) (And.intro (G8.out.2.1.step (Below.refl _ _).drew) (And.intro G8.out.2.2.1.drew G8.out.2.2.2.drew)))
    have l1 := load25_run M.out.2.2.1 HD.out.1.1
    have l2 := load25_run M.out.2.2.2 HD.out.2.1
    have l3 := load32_run M.out.2.1.t
    refine wp_region_pv (.still [false, false, true, true, true, false, false, false, false, true, true, true, false, false, false] (.look [true, true, false, false, false, false, true, true, true, false, false, false, false, false, false] (.act [false, false, false, false, false, true, false, false, false, false, false, false, false, false, false] (.act [false, false, false, false, false, false, false, false, false, false, false, false, true, false, false] (.last [false, false, false, false, false, false, false, false, false, false, false, false, false, true, false] (.look [false, false, false, false, false, false, false, false, false, false, false, false, false, false, true] .stop)))))) (by kernel_rfl) (by kernel_rfl) (fun _ _ d _ _ h => by cases d <;> exact h) ?_
    generalize w8.drew = V at *
    refine sv_still fun K0 hK0 => ?_
    simp only [pickM]
    go_wp2_with fail
    refine hK0.out _ ?_
    clear hK0 K0
    refine sv_look fun K0 hK0 => ?_
    simp only [pickM]
    go_wp2_with fail
    refine hK0.out _ ?_
    clear hK0 K0
    refine sv_act fun K2 hK2 => ?_
    simp only [pickM]
    go_wp2_with fail
    refine (mvcons_all _ M.out.2.1.a.t d0 d1 HD.out.1.1 HD.out.2.1 HD.out.1.2 z0 z1 hs P m pc HE.out.1 (by omega) HE.out.2.2.2.2.1 (by have := HE.out.2.2.2.2.2; unfold maxLen at this; omega) HE.out.2.1 M.out.1).mono ?_
    rintro e x1 ⟨rfl, hBelow⟩
    have M := Lib.hid (And.intro (M.out.1.below hBelow) (And.intro (M.out.2.1.step hBelow) (And.intro (M.out.2.2.1.below hBelow M.out.2.2.1.lt) (M.out.2.2.2.below hBelow M.out.2.2.2.lt))))
    go_wp2_with fail
    have hsx1 := Lib.hid (show Sof (some V) x1 from hBelow)
    refine hK2.out _ _ hsx1.out ?_
    clear hK2 K2 hBelow
    refine sv_act fun K2 hK2 => ?_
    simp only [pickM]
    go_wp2_with fail
    refine (to_any _ hs P m pc HE.out.1 HE.out.2.1 (by omega) M.out.1).mono ?_
    rintro e x2 ⟨TA, tc, rfl, OT, hBelow⟩
    have M := Lib.hid (And.intro (M.out.1.below hBelow) (And.intro (M.out.2.1.step hBelow) (And.intro (M.out.2.2.1.below hBelow M.out.2.2.1.lt) (M.out.2.2.2.below hBelow M.out.2.2.2.lt))))
    have HT := Lib.hid (And.intro OT.lv OT.cap')
    clear OT
    go_wp2_with fail
    have hsx2 := Lib.hid (Sof.step hsx1.out hBelow)
    refine hK2.out _ _ hsx2.out ?_
    clear hK2 K2 hBelow
    refine sv_last fun K2 hK2 => ?_
    simp only [pickM]
    go_wp2_with fail
    refine (rvcons_all _ d0 d1 HD.out.1.1 HD.out.2.1 HD.out.1.2 z0 z1 hs TA m tc HE.out.1 (by omega) HT.out.2.1 (by have := HT.out.2.2; unfold maxLen at this; omega) HE.out.2.1 HT.out.1).mono ?_
    rintro e x3 ⟨rfl, hBelow⟩
    have M := Lib.hid (And.intro (M.out.1.below hBelow) (And.intro (M.out.2.1.step hBelow) (And.intro (M.out.2.2.1.below hBelow M.out.2.2.1.lt) (M.out.2.2.2.below hBelow M.out.2.2.2.lt))))
    clear HT
    go_wp2_with fail
    refine hK2.out _ _ ?_
    clear hK2 K2 hBelow
    refine sv_look fun K0 hK0 => ?_
    simp only [pickM]
    go_wp2_with fail
    refine hK0.out _ ?_
    clear hK0 K0
    change Exit.then _ _ _ _ _
    go_wp2_with fail
    go_meet
    exact ⟨rfl, M.out.2.1⟩
  case rest =>
  obtain ⟨rfl, M9⟩ := hcut
  have M := Lib.hid M9
  clear M9 G8 HD
  go_upto_region 14 with (fail)
  go_cut [14] (fun v wx => ∃ i : Nat, i ≤ m ∧ v = .int .i64 i ∧ wx = wc)
  case first =>
    have hi0 : ∃ i : Nat, i ≤ m ∧ (z0 < 0 → wrap64 ((IntKind.u64.wrap z0).tmod ((m : Int) + 1)) = i) ∧ (¬ z0 < 0 → wrap64 (z0 % ((m : Int) + 1)) = i) := by
      by_cases h : z0 < 0
      · obtain ⟨i, hi, e1, _⟩ := idx_nat1 (IntKind.u64.wrap z0) m (wrap_u64_nonneg _) hm20
        exact ⟨i, hi, fun _ => e1, fun h' => absurd h h'⟩
      · obtain ⟨i, hi, _, e2⟩ := idx_nat1 z0 m (by omega) hm20
        exact ⟨i, hi, fun h' => absurd h' h, fun _ => e2⟩
    obtain ⟨i, hi, e1, e2⟩ := hi0
    have HI := Lib.hid (And.intro e1 e2)
    clear e1 e2
    by_cases t0 : z0 < 0
    · go_wp2_with fail
      rw [HI.out.1 t0]
      go_meet
      exact ⟨i, hi, rfl, rfl⟩
    · go_wp2_with fail
      rw [HI.out.2 t0]
      go_meet
      exact ⟨i, hi, rfl, rfl⟩
  case rest =>
  obtain ⟨i, hi, rfl, rfl⟩ := hcut
  have hr1 := mrootL_length (q.take i)
  have hr2 := mrootL_length q
  have hrB1 := mrootL_bytes (q.take i)
  have hrB2 := mrootL_bytes q
  have HR1 := Lib.hid (fun W (s : PL W A' q) => rroot_any i (q.take i) W A' c' (by rw [List.length_take, HM.out]; omega) (by omega) (by omega) hc'' (s.take i))
  have HR2 := Lib.hid (fun W (s : PL W A' q) => rroot_any m q W A' c' HM.out (by omega) (by omega) hc'' s)
  have HRC := Lib.hid (fun W (s : PL W A' q) => rcons_any m q i W A' c' HM.out hi (by omega) (by omega) hc'' s)
  have hcd := consL_digs' q m i HM.out hi
  have sl := fun W => sl41_hG A' m c' i (by omega) W
  generalize mrootL (q.take i) = r1 at *
  generalize mrootL q = r2 at *
  generalize consL q i = qc at *
  obtain ⟨kq, hkq⟩ : ∃ kq, qc.length = kq := ⟨_, rfl⟩
  rw [hkq] at HRC hcd
  have HQ := Lib.hid (And.intro hkq hcd.1)
  have hkm := hcd.2
  clear hkq hcd
  have HB1 := Lib.hid (And.intro hrB1 hrB2)
  clear hrB1 hrB2
  go_upto_region 15 with (fail)
  go_cut [15, 16] (fun v15 v16 wx => ∃ gx gy : Nat, v15 = .pointer (some ⟨gx, 0, none⟩) ∧ v16 = .pointer (some ⟨gy, 0, none⟩) ∧ Blk wx gx 25 (u8s r1) ∧ Blk wx gy 25 (u8s r2) ∧ VcS w wx gt z0 z1 kd aa bb A' q)
  case first =>
    have HV := Lib.hid (M.out.step (Below.refl _ _).drew)
    have l1 := load32_run HV.out.t
    refine wp_region_pv (.still [false, true, true, false, false, false, true, false, false, false, false, false] (.look [true, false, false, true, false, true, false, false, false, false, false, false] (.fork [false, false, false, false, true, false, false, false, false, false, false, false] (.fork [false, false, false, false, false, false, false, true, false, false, false, false] (.fork [false, false, false, false, false, false, false, false, true, false, false, false] (.act [false, false, false, false, false, false, false, false, false, true, false, false] (.last [false, false, false, false, false, false, false, false, false, false, true, false] (.last [false, false, false, false, false, false, false, false, false, false, false, true] .stop))) (.act [false, false, false, false, false, false, false, false, false, true, false, false] (.act [false, false, false, false, false, false, false, false, true, false, false, false] (.last [false, false, false, false, false, false, false, false, false, false, true, false] (.last [false, false, false, false, false, false, false, false, false, false, false, true] .stop))))) (.fork [false, false, false, false, false, false, false, false, true, false, false, false] (.fork [false, false, false, false, false, false, false, true, false, false, false, false] (.act [false, false, false, false, false, false, false, false, false, true, false, false] (.last [false, false, false, false, false, false, false, false, false, false, true, false] (.last [false, false, false, false, false, false, false, false, false, false, false, true] .stop))) (.act [false, false, false, false, false, false, false, false, false, true, false, false] (.act [false, false, false, false, false, false, false, true, false, false, false, false] (.last [false, false, false, false, false, false, false, false, false, false, true, false] (.last [false, false, false, false, false, false, false, false, false, false, false, true] .stop))))) (.act [false, false, false, false, false, false, false, false, false, true, false, false] (.fork [false, false, false, false, false, false, false, true, false, false, false, false] (.act [false, false, false, false, false, false, false, false, true, false, false, false] (.last [false, false, false, false, false, false, false, false, false, false, true, false] (.last [false, false, false, false, false, false, false, false, false, false, false, true] .stop))) (.act [false, false, false, false, false, false, false, false, true, false, false, false] (.act [false, false, false, false, false, false, false, true, false, false, false, false] (.last [false, false, false, false, false, false, false, false, false, false, true, false] (.last [false, false, false, false, false, false, false, false, false, false, false, true] .stop)))))))) (.fork [false, false, false, false, false, false, false, false, true, false, false, false] (.fork [false, false, false, false, true, false, false, false, false, false, false, false] (.fork [false, false, false, false, false, false, false, true, false, false, false, false] (.act [false, false, false, false, false, false, false, false, false, true, false, false] (.last [false, false, false, false, false, false, false, false, false, false, true, false] (.last [false, false, false, false, false, false, false, false, false, false, false, true] .stop))) (.act [false, false, false, false, false, false, false, false, false, true, false, false] (.act [false, false, false, false, false, false, false, true, false, false, false, false] (.last [false, false, false, false, false, false, false, false, false, false, true, false] (.last [false, false, false, false, false, false, false, false, false, false, false, true] .stop))))) (.act [false, false, false, false, false, false, false, false, false, true, false, false] (.act [false, false, false, false, true, false, false, false, false, false, false, false] (.act [false, false, false, false, false, false, false, true, false, false, false, false] (.last [false, false, false, false, false, false, false, false, false, false, true, false] (.last [false, false, false, false, false, false, false, false, false, false, false, true] .stop)))))) (.act [false, false, false, false, false, false, false, false, false, true, false, false] (.fork [false, false, false, false, true, false, false, false, false, false, false, false] (.fork [false, false, false, false, false, false, false, true, false, false, false, false] (.act [false, false, false, false, false, false, false, false, true, false, false, false] (.last [false, false, false, false, false, false, false, false, false, false, true, false] (.last [false, false, false, false, false, false, false, false, false, false, false, true] .stop))) (.act [false, false, false, false, false, false, false, false, true, false, false, false] (.act [false, false, false, false, false, false, false, true, false, false, false, false] (.last [false, false, false, false, false, false, false, false, false, false, true, false] (.last [false, false, false, false, false, false, false, false, false, false, false, true] .stop))))) (.act [false, false, false, false, false, false, false, false, true, false, false, false] (.act [false, false, false, false, true, false, false, false, false, false, false, false] (.act [false, false, false, false, false, false, false, true, false, false, false, false] (.last [false, false, false, false, false, false, false, false, false, false, true, false] (.last [false, false, false, false, false, false, false, false, false, false, false, true] .stop))))))))))) (by kernel_rfl) (by kernel_rfl) (fun _ _ d _ _ h => by cases d <;> exact h) ?_
    generalize wc.drew = V at *
    have HB := Lib.hid (Below.refl V.heap.size V)
    refine sv_still fun K0 hK0 => ?_
    simp only [pickM]
    go_wp2_with fail
    refine hK0.out _ ?_
    clear hK0 K0
    refine sv_look fun K0 hK0 => ?_
    simp only [pickM]
    go_wp2_with fail
    refine hK0.out _ ?_
    clear hK0 K0
    refine sv_fork (fun K2 hK2 => ?_) ?_
    · simp only [pickM]
      go_wp2_with fail
      refine (HR1.out _ ((HV.out.step HB.out).p)).mono ?_
      rintro e x1 ⟨rfl, hBelow⟩
      have HB2 := Lib.hid (HB.out.trans (hBelow.mono HB.out.size))
      clear HB
      have HB := HB2
      clear HB2
      go_wp2_with fail
      have hsx1 := Lib.hid (show Sof (some V) x1 from hBelow)
      refine hK2.out _ _ hsx1.out ?_
      clear hK2 K2 hBelow
      refine sv_fork (fun K2 hK2 => ?_) ?_
      · simp only [pickM]
        go_wp2_with fail
        refine (HR2.out _ ((HV.out.step HB.out).p)).mono ?_
        rintro e x2 ⟨rfl, hBelow⟩
        have HB2 := Lib.hid (HB.out.trans (hBelow.mono HB.out.size))
        clear HB
        have HB := HB2
        clear HB2
        go_wp2_with fail
        have hsx2 := Lib.hid (Sof.step hsx1.out hBelow)
        refine hK2.out _ _ hsx2.out ?_
        clear hK2 K2 hBelow
        refine sv_fork (fun K2 hK2 => ?_) ?_
        · simp only [pickM]
          go_wp2_with fail
          obtain ⟨x3, hx⟩ : ∃ X, X = World.alloc x2 (.cells (u8s (zer 32)) 25) := ⟨_, rfl⟩
          rw [← hx]
          have hBelow : Below x2.heap.size x2 x3 := by rw [hx]; exact (Below.refl _ _).alloc (Nat.le_refl _) _
          have hnX : V.heap.size ≤ x2.heap.size := HB.out.size
          have HB2 := Lib.hid (HB.out.trans (hBelow.mono HB.out.size))
          clear HB
          have HB := HB2
          clear HB2
          have X := Lib.hid (show Blk x3 x2.heap.size 25 (u8s (zer 32)) by rw [hx]; exact Blk.new x2 25 _)
          clear hx
          go_wp2_with fail
          have hsx3 := Lib.hid (Sof.step hsx2.out hBelow)
          refine hK2.out _ _ hsx3.out ?_
          clear hK2 K2 hBelow
          refine sv_act fun K2 hK2 => ?_
          simp only [pickM]
          go_wp2_with fail
          obtain ⟨x4, hx⟩ : ∃ X, X = World.alloc x3 (.cells (u8s (zer 32)) 25) := ⟨_, rfl⟩
          rw [← hx]
          have hBelow : Below x3.heap.size x3 x4 := by rw [hx]; exact (Below.refl _ _).alloc (Nat.le_refl _) _
          have hXY : x2.heap.size < x3.heap.size := X.out.lt
          have hnY : V.heap.size ≤ x3.heap.size := HB.out.size
          have X := Lib.hid (X.out.below hBelow X.out.lt)
          have HB2 := Lib.hid (HB.out.trans (hBelow.mono HB.out.size))
          clear HB
          have HB := HB2
          clear HB2
          have Y := Lib.hid (show Blk x4 x3.heap.size 25 (u8s (zer 32)) by rw [hx]; exact Blk.new x3 25 _)
          clear hx
          go_wp2_with fail
          have hsx4 := Lib.hid (Sof.step hsx3.out hBelow)
          refine hK2.out _ _ hsx4.out ?_
          clear hK2 K2 hBelow
          refine sv_last fun K2 hK2 => ?_
          simp only [pickM]
          have s1 := store25_run X.out rfl hr1
          go_wp2_with fail
          obtain ⟨x5, hx⟩ : ∃ X, X = World.setRow x4 (x2.heap.size) (u8s r1) := ⟨_, rfl⟩
          rw [← hx]
          have hSof : Sof (some V) x5 := by rw [hx]; exact below_setRow' HB.out hnX _
          have Z2 := Lib.hid (show Blk x5 (x2.heap.size) 25 (u8s r1) by rw [hx]; exact X.out.setRow _)
          have Y2 := Lib.hid (show Blk x5 (x3.heap.size) 25 _ by rw [hx]; exact Y.out.farRow (by omega) _)
          have HB2 := Lib.hid hSof
          clear hx s1 HB X Y
          have X := Z2
          have HB := HB2
          clear Z2 HB2
          have Y := Y2
          clear Y2
          go_wp2_with fail
          refine hK2.out _ _ ?_
          clear hK2 K2
          refine sv_last fun K2 hK2 => ?_
          simp only [pickM]
          have s1 := store25_run Y.out rfl hr2
          go_wp2_with fail
          obtain ⟨x6, hx⟩ : ∃ X, X = World.setRow x5 (x3.heap.size) (u8s r2) := ⟨_, rfl⟩
          rw [← hx]
          have hSof : Sof (some V) x6 := by rw [hx]; exact below_setRow' HB.out hnY _
          have Z2 := Lib.hid (show Blk x6 (x3.heap.size) 25 (u8s r2) by rw [hx]; exact Y.out.setRow _)
          have X2 := Lib.hid (show Blk x6 (x2.heap.size) 25 _ by rw [hx]; exact X.out.farRow (by omega) _)
          have HB2 := Lib.hid hSof
          clear hx s1 HB Y X
          have Y := Z2
          have HB := HB2
          clear Z2 HB2
          have X := X2
          clear X2
          go_wp2_with fail
          refine hK2.out _ _ ?_
          clear hK2 K2
          change Exit.then _ _ _ _ _
          go_wp2_with fail
          go_meet
          exact ⟨_, _, rfl, rfl, X.out, Y.out, HV.out.step HB.out⟩
        · refine sv_act fun K2 hK2 => ?_
          simp only [pickM]
          go_wp2_with fail
          obtain ⟨x7, hx⟩ : ∃ X, X = World.alloc x2 (.cells (u8s (zer 32)) 25) := ⟨_, rfl⟩
          rw [← hx]
          have hBelow : Below x2.heap.size x2 x7 := by rw [hx]; exact (Below.refl _ _).alloc (Nat.le_refl _) _
          have hnY : V.heap.size ≤ x2.heap.size := HB.out.size
          have HB2 := Lib.hid (HB.out.trans (hBelow.mono HB.out.size))
          clear HB
          have HB := HB2
          clear HB2
          have Y := Lib.hid (show Blk x7 x2.heap.size 25 (u8s (zer 32)) by rw [hx]; exact Blk.new x2 25 _)
          clear hx
          go_wp2_with fail
          have hsx7 := Lib.hid (Sof.step hsx2.out hBelow)
          refine hK2.out _ _ hsx7.out ?_
          clear hK2 K2 hBelow
          refine sv_act fun K2 hK2 => ?_
          simp only [pickM]
          go_wp2_with fail
          obtain ⟨x8, hx⟩ : ∃ X, X = World.alloc x7 (.cells (u8s (zer 32)) 25) := ⟨_, rfl⟩
          rw [← hx]
          have hBelow : Below x7.heap.size x7 x8 := by rw [hx]; exact (Below.refl _ _).alloc (Nat.le_refl _) _
          have hXY : x2.heap.size < x7.heap.size := Y.out.lt
          have hnX : V.heap.size ≤ x7.heap.size := HB.out.size
          have Y := Lib.hid (Y.out.below hBelow Y.out.lt)
          have HB2 := Lib.hid (HB.out.trans (hBelow.mono HB.out.size))
          clear HB
          have HB := HB2
          clear HB2
          have X := Lib.hid (show Blk x8 x7.heap.size 25 (u8s (zer 32)) by rw [hx]; exact Blk.new x7 25 _)
          clear hx
          go_wp2_with fail
          have hsx8 := Lib.hid (Sof.step hsx7.out hBelow)
          refine hK2.out _ _ hsx8.out ?_
          clear hK2 K2 hBelow
          refine sv_last fun K2 hK2 => ?_
          simp only [pickM]
          have s1 := store25_run X.out rfl hr1
          go_wp2_with fail
          obtain ⟨x9, hx⟩ : ∃ X, X = World.setRow x8 (x7.heap.size) (u8s r1) := ⟨_, rfl⟩
          rw [← hx]
          have hSof : Sof (some V) x9 := by rw [hx]; exact below_setRow' HB.out hnX _
          have Z2 := Lib.hid (show Blk x9 (x7.heap.size) 25 (u8s r1) by rw [hx]; exact X.out.setRow _)
          have Y2 := Lib.hid (show Blk x9 (x2.heap.size) 25 _ by rw [hx]; exact Y.out.farRow (by omega) _)
          have HB2 := Lib.hid hSof
          clear hx s1 HB X Y
          have X := Z2
          have HB := HB2
          clear Z2 HB2
          have Y := Y2
          clear Y2
          go_wp2_with fail
          refine hK2.out _ _ ?_
          clear hK2 K2
          refine sv_last fun K2 hK2 => ?_
          simp only [pickM]
          have s1 := store25_run Y.out rfl hr2
          go_wp2_with fail
          obtain ⟨x10, hx⟩ : ∃ X, X = World.setRow x9 (x2.heap.size) (u8s r2) := ⟨_, rfl⟩
          rw [← hx]
          have hSof : Sof (some V) x10 := by rw [hx]; exact below_setRow' HB.out hnY _
          have Z2 := Lib.hid (show Blk x10 (x2.heap.size) 25 (u8s r2) by rw [hx]; exact Y.out.setRow _)
          have X2 := Lib.hid (show Blk x10 (x7.heap.size) 25 _ by rw [hx]; exact X.out.farRow (by omega) _)
          have HB2 := Lib.hid hSof
          clear hx s1 HB Y X
          have Y := Z2
          have HB := HB2
          clear Z2 HB2
          have X := X2
          clear X2
          go_wp2_with fail
          refine hK2.out _ _ ?_
          clear hK2 K2
          change Exit.then _ _ _ _ _
          go_wp2_with fail
          go_meet
          exact ⟨_, _, rfl, rfl, X.out, Y.out, HV.out.step HB.out⟩
      refine sv_fork (fun K2 hK2 => ?_) ?_
      · simp only [pickM]
        go_wp2_with fail
        obtain ⟨x11, hx⟩ : ∃ X, X = World.alloc x1 (.cells (u8s (zer 32)) 25) := ⟨_, rfl⟩
        rw [← hx]
        have hBelow : Below x1.heap.size x1 x11 := by rw [hx]; exact (Below.refl _ _).alloc (Nat.le_refl _) _
        have hnX : V.heap.size ≤ x1.heap.size := HB.out.size
        have HB2 := Lib.hid (HB.out.trans (hBelow.mono HB.out.size))
        clear HB
        have HB := HB2
        clear HB2
        have X := Lib.hid (show Blk x11 x1.heap.size 25 (u8s (zer 32)) by rw [hx]; exact Blk.new x1 25 _)
        clear hx
        go_wp2_with fail
        have hsx11 := Lib.hid (Sof.step hsx1.out hBelow)
        refine hK2.out _ _ hsx11.out ?_
        clear hK2 K2 hBelow
        refine sv_fork (fun K2 hK2 => ?_) ?_
        · simp only [pickM]
          go_wp2_with fail
          refine (HR2.out _ ((HV.out.step HB.out).p)).mono ?_
          rintro e x12 ⟨rfl, hBelow⟩
          have X := Lib.hid (X.out.below hBelow X.out.lt)
          have HB2 := Lib.hid (HB.out.trans (hBelow.mono HB.out.size))
          clear HB
          have HB := HB2
          clear HB2
          go_wp2_with fail
          have hsx12 := Lib.hid (Sof.step hsx11.out hBelow)
          refine hK2.out _ _ hsx12.out ?_
          clear hK2 K2 hBelow
          refine sv_act fun K2 hK2 => ?_
          simp only [pickM]
          go_wp2_with fail
          obtain ⟨x13, hx⟩ : ∃ X, X = World.alloc x12 (.cells (u8s (zer 32)) 25) := ⟨_, rfl⟩
          rw [← hx]
          have hBelow : Below x12.heap.size x12 x13 := by rw [hx]; exact (Below.refl _ _).alloc (Nat.le_refl _) _
          have hXY : x1.heap.size < x12.heap.size := X.out.lt
          have hnY : V.heap.size ≤ x12.heap.size := HB.out.size
          have X := Lib.hid (X.out.below hBelow X.out.lt)
          have HB2 := Lib.hid (HB.out.trans (hBelow.mono HB.out.size))
          clear HB
          have HB := HB2
          clear HB2
          have Y := Lib.hid (show Blk x13 x12.heap.size 25 (u8s (zer 32)) by rw [hx]; exact Blk.new x12 25 _)
          clear hx
          go_wp2_with fail
          have hsx13 := Lib.hid (Sof.step hsx12.out hBelow)
          refine hK2.out _ _ hsx13.out ?_
          clear hK2 K2 hBelow
          refine sv_last fun K2 hK2 => ?_
          simp only [pickM]
          have s1 := store25_run X.out rfl hr1
          go_wp2_with fail
          obtain ⟨x14, hx⟩ : ∃ X, X = World.setRow x13 (x1.heap.size) (u8s r1) := ⟨_, rfl⟩
          rw [← hx]
          have hSof : Sof (some V) x14 := by rw [hx]; exact below_setRow' HB.out hnX _
          have Z2 := Lib.hid (show Blk x14 (x1.heap.size) 25 (u8s r1) by rw [hx]; exact X.out.setRow _)
          have Y2 := Lib.hid (show Blk x14 (x12.heap.size) 25 _ by rw [hx]; exact Y.out.farRow (by omega) _)
          have HB2 := Lib.hid hSof
          clear hx s1 HB X Y
          have X := Z2
          have HB := HB2
          clear Z2 HB2
          have Y := Y2
          clear Y2
          go_wp2_with fail
          refine hK2.out _ _ ?_
          clear hK2 K2
          refine sv_last fun K2 hK2 => ?_
          simp only [pickM]
          have s1 := store25_run Y.out rfl hr2
          go_wp2_with fail
          obtain ⟨x15, hx⟩ : ∃ X, X = World.setRow x14 (x12.heap.size) (u8s r2) := ⟨_, rfl⟩
          rw [← hx]
          have hSof : Sof (some V) x15 := by rw [hx]; exact below_setRow' HB.out hnY _
          have Z2 := Lib.hid (show Blk x15 (x12.heap.size) 25 (u8s r2) by rw [hx]; exact Y.out.setRow _)
          have X2 := Lib.hid (show Blk x15 (x1.heap.size) 25 _ by rw [hx]; exact X.out.farRow (by omega) _)
          have HB2 := Lib.hid hSof
          clear hx s1 HB Y X
          have Y := Z2
          have HB := HB2
          clear Z2 HB2
          have X := X2
          clear X2
          go_wp2_with fail
          refine hK2.out _ _ ?_
          clear hK2 K2
          change Exit.then _ _ _ _ _
          go_wp2_with fail
          go_meet
          exact ⟨_, _, rfl, rfl, X.out, Y.out, HV.out.step HB.out⟩
        · refine sv_act fun K2 hK2 => ?_
          simp only [pickM]
          go_wp2_with fail
          obtain ⟨x16, hx⟩ : ∃ X, X = World.alloc x11 (.cells (u8s (zer 32)) 25) := ⟨_, rfl⟩
          rw [← hx]
          have hBelow : Below x11.heap.size x11 x16 := by rw [hx]; exact (Below.refl _ _).alloc (Nat.le_refl _) _
          have hXY : x1.heap.size < x11.heap.size := X.out.lt
          have hnY : V.heap.size ≤ x11.heap.size := HB.out.size
          have X := Lib.hid (X.out.below hBelow X.out.lt)
          have HB2 := Lib.hid (HB.out.trans (hBelow.mono HB.out.size))
          clear HB
          have HB := HB2
          clear HB2
          have Y := Lib.hid (show Blk x16 x11.heap.size 25 (u8s (zer 32)) by rw [hx]; exact Blk.new x11 25 _)
          clear hx
          go_wp2_with fail
          have hsx16 := Lib.hid (Sof.step hsx11.out hBelow)
          refine hK2.out _ _ hsx16.out ?_
          clear hK2 K2 hBelow
          refine sv_act fun K2 hK2 => ?_
          simp only [pickM]
          go_wp2_with fail
          refine (HR2.out _ ((HV.out.step HB.out).p)).mono ?_
          rintro e x17 ⟨rfl, hBelow⟩
          have X := Lib.hid (X.out.below hBelow X.out.lt)
          have Y := Lib.hid (Y.out.below hBelow Y.out.lt)
          have HB2 := Lib.hid (HB.out.trans (hBelow.mono HB.out.size))
          clear HB
          have HB := HB2
          clear HB2
          go_wp2_with fail
          have hsx17 := Lib.hid (Sof.step hsx16.out hBelow)
          refine hK2.out _ _ hsx17.out ?_
          clear hK2 K2 hBelow
          refine sv_last fun K2 hK2 => ?_
          simp only [pickM]
          have s1 := store25_run X.out rfl hr1
          go_wp2_with fail
          obtain ⟨x18, hx⟩ : ∃ X, X = World.setRow x17 (x1.heap.size) (u8s r1) := ⟨_, rfl⟩
          rw [← hx]
          have hSof : Sof (some V) x18 := by rw [hx]; exact below_setRow' HB.out hnX _
          have Z2 := Lib.hid (show Blk x18 (x1.heap.size) 25 (u8s r1) by rw [hx]; exact X.out.setRow _)
          have Y2 := Lib.hid (show Blk x18 (x11.heap.size) 25 _ by rw [hx]; exact Y.out.farRow (by omega) _)
          have HB2 := Lib.hid hSof
          clear hx s1 HB X Y
          have X := Z2
          have HB := HB2
          clear Z2 HB2
          have Y := Y2
          clear Y2
          go_wp2_with fail
          refine hK2.out _ _ ?_
          clear hK2 K2
          refine sv_last fun K2 hK2 => ?_
          simp only [pickM]
          have s1 := store25_run Y.out rfl hr2
          go_wp2_with fail
          obtain ⟨x19, hx⟩ : ∃ X, X = World.setRow x18 (x11.heap.size) (u8s r2) := ⟨_, rfl⟩
          rw [← hx]
          have hSof : Sof (some V) x19 := by rw [hx]; exact below_setRow' HB.out hnY _
          have Z2 := Lib.hid (show Blk x19 (x11.heap.size) 25 (u8s r2) by rw [hx]; exact Y.out.setRow _)
          have X2 := Lib.hid (show Blk x19 (x1.heap.size) 25 _ by rw [hx]; exact X.out.farRow (by omega) _)
          have HB2 := Lib.hid hSof
          clear hx s1 HB Y X
          have Y := Z2
          have HB := HB2
          clear Z2 HB2
          have X := X2
          clear X2
          go_wp2_with fail
          refine hK2.out _ _ ?_
          clear hK2 K2
          change Exit.then _ _ _ _ _
          go_wp2_with fail
          go_meet
          exact ⟨_, _, rfl, rfl, X.out, Y.out, HV.out.step HB.out⟩
      · refine sv_act fun K2 hK2 => ?_
        simp only [pickM]
        go_wp2_with fail
        obtain ⟨x20, hx⟩ : ∃ X, X = World.alloc x1 (.cells (u8s (zer 32)) 25) := ⟨_, rfl⟩
        rw [← hx]
        have hBelow : Below x1.heap.size x1 x20 := by rw [hx]; exact (Below.refl _ _).alloc (Nat.le_refl _) _
        have hnY : V.heap.size ≤ x1.heap.size := HB.out.size
        have HB2 := Lib.hid (HB.out.trans (hBelow.mono HB.out.size))
        clear HB
        have HB := HB2
        clear HB2
        have Y := Lib.hid (show Blk x20 x1.heap.size 25 (u8s (zer 32)) by rw [hx]; exact Blk.new x1 25 _)
        clear hx
        go_wp2_with fail
        have hsx20 := Lib.hid (Sof.step hsx1.out hBelow)
        refine hK2.out _ _ hsx20.out ?_
        clear hK2 K2 hBelow
        refine sv_fork (fun K2 hK2 => ?_) ?_
        · simp only [pickM]
          go_wp2_with fail
          refine (HR2.out _ ((HV.out.step HB.out).p)).mono ?_
          rintro e x21 ⟨rfl, hBelow⟩
          have Y := Lib.hid (Y.out.below hBelow Y.out.lt)
          have HB2 := Lib.hid (HB.out.trans (hBelow.mono HB.out.size))
          clear HB
          have HB := HB2
          clear HB2
          go_wp2_with fail
          have hsx21 := Lib.hid (Sof.step hsx20.out hBelow)
          refine hK2.out _ _ hsx21.out ?_
          clear hK2 K2 hBelow
          refine sv_act fun K2 hK2 => ?_
          simp only [pickM]
          go_wp2_with fail
          obtain ⟨x22, hx⟩ : ∃ X, X = World.alloc x21 (.cells (u8s (zer 32)) 25) := ⟨_, rfl⟩
          rw [← hx]
          have hBelow : Below x21.heap.size x21 x22 := by rw [hx]; exact (Below.refl _ _).alloc (Nat.le_refl _) _
          have hXY : x1.heap.size < x21.heap.size := Y.out.lt
          have hnX : V.heap.size ≤ x21.heap.size := HB.out.size
          have Y := Lib.hid (Y.out.below hBelow Y.out.lt)
          have HB2 := Lib.hid (HB.out.trans (hBelow.mono HB.out.size))
          clear HB
          have HB := HB2
          clear HB2
          have X := Lib.hid (show Blk x22 x21.heap.size 25 (u8s (zer 32)) by rw [hx]; exact Blk.new x21 25 _)
          clear hx
          go_wp2_with fail
          have hsx22 := Lib.hid (Sof.step hsx21.out hBelow)
          refine hK2.out _ _ hsx22.out ?_
          clear hK2 K2 hBelow
          refine sv_last fun K2 hK2 => ?_
          simp only [pickM]
          have s1 := store25_run X.out rfl hr1
          go_wp2_with fail
          obtain ⟨x23, hx⟩ : ∃ X, X = World.setRow x22 (x21.heap.size) (u8s r1) := ⟨_, rfl⟩
          rw [← hx]
          have hSof : Sof (some V) x23 := by rw [hx]; exact below_setRow' HB.out hnX _
          have Z2 := Lib.hid (show Blk x23 (x21.heap.size) 25 (u8s r1) by rw [hx]; exact X.out.setRow _)
          have Y2 := Lib.hid (show Blk x23 (x1.heap.size) 25 _ by rw [hx]; exact Y.out.farRow (by omega) _)
          have HB2 := Lib.hid hSof
          clear hx s1 HB X Y
          have X := Z2
          have HB := HB2
          clear Z2 HB2
          have Y := Y2
          clear Y2
          go_wp2_with fail
          refine hK2.out _ _ ?_
          clear hK2 K2
          refine sv_last fun K2 hK2 => ?_
          simp only [pickM]
          have s1 := store25_run Y.out rfl hr2
          go_wp2_with fail
          obtain ⟨x24, hx⟩ : ∃ X, X = World.setRow x23 (x1.heap.size) (u8s r2) := ⟨_, rfl⟩
          rw [← hx]
          have hSof : Sof (some V) x24 := by rw [hx]; exact below_setRow' HB.out hnY _
          have Z2 := Lib.hid (show Blk x24 (x1.heap.size) 25 (u8s r2) by rw [hx]; exact Y.out.setRow _)
          have X2 := Lib.hid (show Blk x24 (x21.heap.size) 25 _ by rw [hx]; exact X.out.farRow (by omega) _)
          have HB2 := Lib.hid hSof
          clear hx s1 HB Y X
          have Y := Z2
          have HB := HB2
          clear Z2 HB2
          have X := X2
          clear X2
          go_wp2_with fail
          refine hK2.out _ _ ?_
          clear hK2 K2
          change Exit.then _ _ _ _ _
          go_wp2_with fail
          go_meet
          exact ⟨_, _, rfl, rfl, X.out, Y.out, HV.out.step HB.out⟩
        · refine sv_act fun K2 hK2 => ?_
          simp only [pickM]
          go_wp2_with fail
          obtain ⟨x25, hx⟩ : ∃ X, X = World.alloc x20 (.cells (u8s (zer 32)) 25) := ⟨_, rfl⟩
          rw [← hx]
          have hBelow : Below x20.heap.size x20 x25 := by rw [hx]; exact (Below.refl _ _).alloc (Nat.le_refl _) _
          have hXY : x1.heap.size < x20.heap.size := Y.out.lt
          have hnX : V.heap.size ≤ x20.heap.size := HB.out.size
          have Y := Lib.hid (Y.out.below hBelow Y.out.lt)
          have HB2 := Lib.hid (HB.out.trans (hBelow.mono HB.out.size))
          clear HB
          have HB := HB2
          clear HB2
          have X := Lib.hid (show Blk x25 x20.heap.size 25 (u8s (zer 32)) by rw [hx]; exact Blk.new x20 25 _)
          clear hx
          go_wp2_with fail
          have hsx25 := Lib.hid (Sof.step hsx20.out hBelow)
          refine hK2.out _ _ hsx25.out ?_
          clear hK2 K2 hBelow
          refine sv_act fun K2 hK2 => ?_
          simp only [pickM]
          go_wp2_with fail
          refine (HR2.out _ ((HV.out.step HB.out).p)).mono ?_
          rintro e x26 ⟨rfl, hBelow⟩
          have X := Lib.hid (X.out.below hBelow X.out.lt)
          have Y := Lib.hid (Y.out.below hBelow Y.out.lt)
          have HB2 := Lib.hid (HB.out.trans (hBelow.mono HB.out.size))
          clear HB
          have HB := HB2
          clear HB2
          go_wp2_with fail
          have hsx26 := Lib.hid (Sof.step hsx25.out hBelow)
          refine hK2.out _ _ hsx26.out ?_
          clear hK2 K2 hBelow
          refine sv_last fun K2 hK2 => ?_
          simp only [pickM]
          have s1 := store25_run X.out rfl hr1
          go_wp2_with fail
          obtain ⟨x27, hx⟩ : ∃ X, X = World.setRow x26 (x20.heap.size) (u8s r1) := ⟨_, rfl⟩
          rw [← hx]
          have hSof : Sof (some V) x27 := by rw [hx]; exact below_setRow' HB.out hnX _
          have Z2 := Lib.hid (show Blk x27 (x20.heap.size) 25 (u8s r1) by rw [hx]; exact X.out.setRow _)
          have Y2 := Lib.hid (show Blk x27 (x1.heap.size) 25 _ by rw [hx]; exact Y.out.farRow (by omega) _)
          have HB2 := Lib.hid hSof
          clear hx s1 HB X Y
          have X := Z2
          have HB := HB2
          clear Z2 HB2
          have Y := Y2
          clear Y2
          go_wp2_with fail
          refine hK2.out _ _ ?_
          clear hK2 K2
          refine sv_last fun K2 hK2 => ?_
          simp only [pickM]
          have s1 := store25_run Y.out rfl hr2
          go_wp2_with fail
          obtain ⟨x28, hx⟩ : ∃ X, X = World.setRow x27 (x1.heap.size) (u8s r2) := ⟨_, rfl⟩
          rw [← hx]
          have hSof : Sof (some V) x28 := by rw [hx]; exact below_setRow' HB.out hnY _
          have Z2 := Lib.hid (show Blk x28 (x1.heap.size) 25 (u8s r2) by rw [hx]; exact Y.out.setRow _)
          have X2 := Lib.hid (show Blk x28 (x20.heap.size) 25 _ by rw [hx]; exact X.out.farRow (by omega) _)
          have HB2 := Lib.hid hSof
          clear hx s1 HB Y X
          have Y := Z2
          have HB := HB2
          clear Z2 HB2
          have X := X2
          clear X2
          go_wp2_with fail
          refine hK2.out _ _ ?_
          clear hK2 K2
          change Exit.then _ _ _ _ _
          go_wp2_with fail
          go_meet
          exact ⟨_, _, rfl, rfl, X.out, Y.out, HV.out.step HB.out⟩
    refine sv_fork (fun K2 hK2 => ?_) ?_
    · simp only [pickM]
      go_wp2_with fail
      obtain ⟨x29, hx⟩ : ∃ X, X = World.alloc V (.cells (u8s (zer 32)) 25) := ⟨_, rfl⟩
      rw [← hx]
      have hBelow : Below V.heap.size V x29 := by rw [hx]; exact (Below.refl _ _).alloc (Nat.le_refl _) _
      have hnX : V.heap.size ≤ V.heap.size := HB.out.size
      have HB2 := Lib.hid (HB.out.trans (hBelow.mono HB.out.size))
      clear HB
      have HB := HB2
      clear HB2
      have X := Lib.hid (show Blk x29 V.heap.size 25 (u8s (zer 32)) by rw [hx]; exact Blk.new V 25 _)
      clear hx
      go_wp2_with fail
      have hsx29 := Lib.hid (show Sof (some V) x29 from hBelow)
      refine hK2.out _ _ hsx29.out ?_
      clear hK2 K2 hBelow
      refine sv_fork (fun K2 hK2 => ?_) ?_
      · simp only [pickM]
        go_wp2_with fail
        refine (HR1.out _ ((HV.out.step HB.out).p)).mono ?_
        rintro e x30 ⟨rfl, hBelow⟩
        have X := Lib.hid (X.out.below hBelow X.out.lt)
        have HB2 := Lib.hid (HB.out.trans (hBelow.mono HB.out.size))
        clear HB
        have HB := HB2
        clear HB2
        go_wp2_with fail
        have hsx30 := Lib.hid (Sof.step hsx29.out hBelow)
        refine hK2.out _ _ hsx30.out ?_
        clear hK2 K2 hBelow
        refine sv_fork (fun K2 hK2 => ?_) ?_
        · simp only [pickM]
          go_wp2_with fail
          refine (HR2.out _ ((HV.out.step HB.out).p)).mono ?_
          rintro e x31 ⟨rfl, hBelow⟩
          have X := Lib.hid (X.out.below hBelow X.out.lt)
          have HB2 := Lib.hid (HB.out.trans (hBelow.mono HB.out.size))
          clear HB
          have HB := HB2
          clear HB2
          go_wp2_with fail
          have hsx31 := Lib.hid (Sof.step hsx30.out hBelow)
          refine hK2.out _ _ hsx31.out ?_
          clear hK2 K2 hBelow
          refine sv_act fun K2 hK2 => ?_
          simp only [pickM]
          go_wp2_with fail
          obtain ⟨x32, hx⟩ : ∃ X, X = World.alloc x31 (.cells (u8s (zer 32)) 25) := ⟨_, rfl⟩
          rw [← hx]
          have hBelow : Below x31.heap.size x31 x32 := by rw [hx]; exact (Below.refl _ _).alloc (Nat.le_refl _) _
          have hXY : V.heap.size < x31.heap.size := X.out.lt
          have hnY : V.heap.size ≤ x31.heap.size := HB.out.size
          have X := Lib.hid (X.out.below hBelow X.out.lt)
          have HB2 := Lib.hid (HB.out.trans (hBelow.mono HB.out.size))
          clear HB
          have HB := HB2
          clear HB2
          have Y := Lib.hid (show Blk x32 x31.heap.size 25 (u8s (zer 32)) by rw [hx]; exact Blk.new x31 25 _)
          clear hx
          go_wp2_with fail
          have hsx32 := Lib.hid (Sof.step hsx31.out hBelow)
          refine hK2.out _ _ hsx32.out ?_
          clear hK2 K2 hBelow
          refine sv_last fun K2 hK2 => ?_
          simp only [pickM]
          have s1 := store25_run X.out rfl hr1
          go_wp2_with fail
          obtain ⟨x33, hx⟩ : ∃ X, X = World.setRow x32 (V.heap.size) (u8s r1) := ⟨_, rfl⟩
          rw [← hx]
          have hSof : Sof (some V) x33 := by rw [hx]; exact below_setRow' HB.out hnX _
          have Z2 := Lib.hid (show Blk x33 (V.heap.size) 25 (u8s r1) by rw [hx]; exact X.out.setRow _)
          have Y2 := Lib.hid (show Blk x33 (x31.heap.size) 25 _ by rw [hx]; exact Y.out.farRow (by omega) _)
          have HB2 := Lib.hid hSof
          clear hx s1 HB X Y
          have X := Z2
          have HB := HB2
          clear Z2 HB2
          have Y := Y2
          clear Y2
          go_wp2_with fail
          refine hK2.out _ _ ?_
          clear hK2 K2
          refine sv_last fun K2 hK2 => ?_
          simp only [pickM]
          have s1 := store25_run Y.out rfl hr2
          go_wp2_with fail
          obtain ⟨x34, hx⟩ : ∃ X, X = World.setRow x33 (x31.heap.size) (u8s r2) := ⟨_, rfl⟩
          rw [← hx]
          have hSof : Sof (some V) x34 := by rw [hx]; exact below_setRow' HB.out hnY _
          have Z2 := Lib.hid (show Blk x34 (x31.heap.size) 25 (u8s r2) by rw [hx]; exact Y.out.setRow _)
          have X2 := Lib.hid (show Blk x34 (V.heap.size) 25 _ by rw [hx]; exact X.out.farRow (by omega) _)
          have HB2 := Lib.hid hSof
          clear hx s1 HB Y X
          have Y := Z2
          have HB := HB2
          clear Z2 HB2
          have X := X2
          clear X2
          go_wp2_with fail
          refine hK2.out _ _ ?_
          clear hK2 K2
          change Exit.then _ _ _ _ _
          go_wp2_with fail
          go_meet
          exact ⟨_, _, rfl, rfl, X.out, Y.out, HV.out.step HB.out⟩
        · refine sv_act fun K2 hK2 => ?_
          simp only [pickM]
          go_wp2_with fail
          obtain ⟨x35, hx⟩ : ∃ X, X = World.alloc x30 (.cells (u8s (zer 32)) 25) := ⟨_, rfl⟩
          rw [← hx]
          have hBelow : Below x30.heap.size x30 x35 := by rw [hx]; exact (Below.refl _ _).alloc (Nat.le_refl _) _
          have hXY : V.heap.size < x30.heap.size := X.out.lt
          have hnY : V.heap.size ≤ x30.heap.size := HB.out.size
          have X := Lib.hid (X.out.below hBelow X.out.lt)
          have HB2 := Lib.hid (HB.out.trans (hBelow.mono HB.out.size))
          clear HB
          have HB := HB2
          clear HB2
          have Y := Lib.hid (show Blk x35 x30.heap.size 25 (u8s (zer 32)) by rw [hx]; exact Blk.new x30 25 _)
          clear hx
          go_wp2_with fail
          have hsx35 := Lib.hid (Sof.step hsx30.out hBelow)
          refine hK2.out _ _ hsx35.out ?_
          clear hK2 K2 hBelow
          refine sv_act fun K2 hK2 => ?_
          simp only [pickM]
          go_wp2_with fail
          refine (HR2.out _ ((HV.out.step HB.out).p)).mono ?_
          rintro e x36 ⟨rfl, hBelow⟩
          have X := Lib.hid (X.out.below hBelow X.out.lt)
          have Y := Lib.hid (Y.out.below hBelow Y.out.lt)
          have HB2 := Lib.hid (HB.out.trans (hBelow.mono HB.out.size))
          clear HB
          have HB := HB2
          clear HB2
          go_wp2_with fail
          have hsx36 := Lib.hid (Sof.step hsx35.out hBelow)
          refine hK2.out _ _ hsx36.out ?_
          clear hK2 K2 hBelow
          refine sv_last fun K2 hK2 => ?_
          simp only [pickM]
          have s1 := store25_run X.out rfl hr1
          go_wp2_with fail
          obtain ⟨x37, hx⟩ : ∃ X, X = World.setRow x36 (V.heap.size) (u8s r1) := ⟨_, rfl⟩
          rw [← hx]
          have hSof : Sof (some V) x37 := by rw [hx]; exact below_setRow' HB.out hnX _
          have Z2 := Lib.hid (show Blk x37 (V.heap.size) 25 (u8s r1) by rw [hx]; exact X.out.setRow _)
          have Y2 := Lib.hid (show Blk x37 (x30.heap.size) 25 _ by rw [hx]; exact Y.out.farRow (by omega) _)
          have HB2 := Lib.hid hSof
          clear hx s1 HB X Y
          have X := Z2
          have HB := HB2
          clear Z2 HB2
          have Y := Y2
          clear Y2
          go_wp2_with fail
          refine hK2.out _ _ ?_
          clear hK2 K2
          refine sv_last fun K2 hK2 => ?_
          simp only [pickM]
          have s1 := store25_run Y.out rfl hr2
          go_wp2_with fail
          obtain ⟨x38, hx⟩ : ∃ X, X = World.setRow x37 (x30.heap.size) (u8s r2) := ⟨_, rfl⟩
          rw [← hx]
          have hSof : Sof (some V) x38 := by rw [hx]; exact below_setRow' HB.out hnY _
          have Z2 := Lib.hid (show Blk x38 (x30.heap.size) 25 (u8s r2) by rw [hx]; exact Y.out.setRow _)
          have X2 := Lib.hid (show Blk x38 (V.heap.size) 25 _ by rw [hx]; exact X.out.farRow (by omega) _)
          have HB2 := Lib.hid hSof
          clear hx s1 HB Y X
          have Y := Z2
          have HB := HB2
          clear Z2 HB2
          have X := X2
          clear X2
          go_wp2_with fail
          refine hK2.out _ _ ?_
          clear hK2 K2
          change Exit.then _ _ _ _ _
          go_wp2_with fail
          go_meet
          exact ⟨_, _, rfl, rfl, X.out, Y.out, HV.out.step HB.out⟩
      · refine sv_act fun K2 hK2 => ?_
        simp only [pickM]
        go_wp2_with fail
        obtain ⟨x39, hx⟩ : ∃ X, X = World.alloc x29 (.cells (u8s (zer 32)) 25) := ⟨_, rfl⟩
        rw [← hx]
        have hBelow : Below x29.heap.size x29 x39 := by rw [hx]; exact (Below.refl _ _).alloc (Nat.le_refl _) _
        have hXY : V.heap.size < x29.heap.size := X.out.lt
        have hnY : V.heap.size ≤ x29.heap.size := HB.out.size
        have X := Lib.hid (X.out.below hBelow X.out.lt)
        have HB2 := Lib.hid (HB.out.trans (hBelow.mono HB.out.size))
        clear HB
        have HB := HB2
        clear HB2
        have Y := Lib.hid (show Blk x39 x29.heap.size 25 (u8s (zer 32)) by rw [hx]; exact Blk.new x29 25 _)
        clear hx
        go_wp2_with fail
        have hsx39 := Lib.hid (Sof.step hsx29.out hBelow)
        refine hK2.out _ _ hsx39.out ?_
        clear hK2 K2 hBelow
        refine sv_act fun K2 hK2 => ?_
        simp only [pickM]
        go_wp2_with fail
        refine (HR1.out _ ((HV.out.step HB.out).p)).mono ?_
        rintro e x40 ⟨rfl, hBelow⟩
        have X := Lib.hid (X.out.below hBelow X.out.lt)
        have Y := Lib.hid (Y.out.below hBelow Y.out.lt)
        have HB2 := Lib.hid (HB.out.trans (hBelow.mono HB.out.size))
        clear HB
        have HB := HB2
        clear HB2
        go_wp2_with fail
        have hsx40 := Lib.hid (Sof.step hsx39.out hBelow)
        refine hK2.out _ _ hsx40.out ?_
        clear hK2 K2 hBelow
        refine sv_act fun K2 hK2 => ?_
        simp only [pickM]
        go_wp2_with fail
        refine (HR2.out _ ((HV.out.step HB.out).p)).mono ?_
        rintro e x41 ⟨rfl, hBelow⟩
        have X := Lib.hid (X.out.below hBelow X.out.lt)
        have Y := Lib.hid (Y.out.below hBelow Y.out.lt)
        have HB2 := Lib.hid (HB.out.trans (hBelow.mono HB.out.size))
        clear HB
        have HB := HB2
        clear HB2
        go_wp2_with fail
        have hsx41 := Lib.hid (Sof.step hsx40.out hBelow)
        refine hK2.out _ _ hsx41.out ?_
        clear hK2 K2 hBelow
        refine sv_last fun K2 hK2 => ?_
        simp only [pickM]
        have s1 := store25_run X.out rfl hr1
        go_wp2_with fail
        obtain ⟨x42, hx⟩ : ∃ X, X = World.setRow x41 (V.heap.size) (u8s r1) := ⟨_, rfl⟩
        rw [← hx]
        have hSof : Sof (some V) x42 := by rw [hx]; exact below_setRow' HB.out hnX _
        have Z2 := Lib.hid (show Blk x42 (V.heap.size) 25 (u8s r1) by rw [hx]; exact X.out.setRow _)
        have Y2 := Lib.hid (show Blk x42 (x29.heap.size) 25 _ by rw [hx]; exact Y.out.farRow (by omega) _)
        have HB2 := Lib.hid hSof
        clear hx s1 HB X Y
        have X := Z2
        have HB := HB2
        clear Z2 HB2
        have Y := Y2
        clear Y2
        go_wp2_with fail
        refine hK2.out _ _ ?_
        clear hK2 K2
        refine sv_last fun K2 hK2 => ?_
        simp only [pickM]
        have s1 := store25_run Y.out rfl hr2
        go_wp2_with fail
        obtain ⟨x43, hx⟩ : ∃ X, X = World.setRow x42 (x29.heap.size) (u8s r2) := ⟨_, rfl⟩
        rw [← hx]
        have hSof : Sof (some V) x43 := by rw [hx]; exact below_setRow' HB.out hnY _
        have Z2 := Lib.hid (show Blk x43 (x29.heap.size) 25 (u8s r2) by rw [hx]; exact Y.out.setRow _)
        have X2 := Lib.hid (show Blk x43 (V.heap.size) 25 _ by rw [hx]; exact X.out.farRow (by omega) _)
        have HB2 := Lib.hid hSof
        clear hx s1 HB Y X
        have Y := Z2
        have HB := HB2
        clear Z2 HB2
        have X := X2
        clear X2
        go_wp2_with fail
        refine hK2.out _ _ ?_
        clear hK2 K2
        change Exit.then _ _ _ _ _
        go_wp2_with fail
        go_meet
        exact ⟨_, _, rfl, rfl, X.out, Y.out, HV.out.step HB.out⟩
    · refine sv_act fun K2 hK2 => ?_
      simp only [pickM]
      go_wp2_with fail
      obtain ⟨x44, hx⟩ : ∃ X, X = World.alloc V (.cells (u8s (zer 32)) 25) := ⟨_, rfl⟩
      rw [← hx]
      have hBelow : Below V.heap.size V x44 := by rw [hx]; exact (Below.refl _ _).alloc (Nat.le_refl _) _
      have hnY : V.heap.size ≤ V.heap.size := HB.out.size
      have HB2 := Lib.hid (HB.out.trans (hBelow.mono HB.out.size))
      clear HB
      have HB := HB2
      clear HB2
      have Y := Lib.hid (show Blk x44 V.heap.size 25 (u8s (zer 32)) by rw [hx]; exact Blk.new V 25 _)
      clear hx
      go_wp2_with fail
      have hsx44 := Lib.hid (show Sof (some V) x44 from hBelow)
      refine hK2.out _ _ hsx44.out ?_
      clear hK2 K2 hBelow
      refine sv_fork (fun K2 hK2 => ?_) ?_
      · simp only [pickM]
        go_wp2_with fail
        refine (HR1.out _ ((HV.out.step HB.out).p)).mono ?_
        rintro e x45 ⟨rfl, hBelow⟩
        have Y := Lib.hid (Y.out.below hBelow Y.out.lt)
        have HB2 := Lib.hid (HB.out.trans (hBelow.mono HB.out.size))
        clear HB
        have HB := HB2
        clear HB2
        go_wp2_with fail
        have hsx45 := Lib.hid (Sof.step hsx44.out hBelow)
        refine hK2.out _ _ hsx45.out ?_
        clear hK2 K2 hBelow
        refine sv_fork (fun K2 hK2 => ?_) ?_
        · simp only [pickM]
          go_wp2_with fail
          refine (HR2.out _ ((HV.out.step HB.out).p)).mono ?_
          rintro e x46 ⟨rfl, hBelow⟩
          have Y := Lib.hid (Y.out.below hBelow Y.out.lt)
          have HB2 := Lib.hid (HB.out.trans (hBelow.mono HB.out.size))
          clear HB
          have HB := HB2
          clear HB2
          go_wp2_with fail
          have hsx46 := Lib.hid (Sof.step hsx45.out hBelow)
          refine hK2.out _ _ hsx46.out ?_
          clear hK2 K2 hBelow
          refine sv_act fun K2 hK2 => ?_
          simp only [pickM]
          go_wp2_with fail
          obtain ⟨x47, hx⟩ : ∃ X, X = World.alloc x46 (.cells (u8s (zer 32)) 25) := ⟨_, rfl⟩
          rw [← hx]
          have hBelow : Below x46.heap.size x46 x47 := by rw [hx]; exact (Below.refl _ _).alloc (Nat.le_refl _) _
          have hXY : V.heap.size < x46.heap.size := Y.out.lt
          have hnX : V.heap.size ≤ x46.heap.size := HB.out.size
          have Y := Lib.hid (Y.out.below hBelow Y.out.lt)
          have HB2 := Lib.hid (HB.out.trans (hBelow.mono HB.out.size))
          clear HB
          have HB := HB2
          clear HB2
          have X := Lib.hid (show Blk x47 x46.heap.size 25 (u8s (zer 32)) by rw [hx]; exact Blk.new x46 25 _)
          clear hx
          go_wp2_with fail
          have hsx47 := Lib.hid (Sof.step hsx46.out hBelow)
          refine hK2.out _ _ hsx47.out ?_
          clear hK2 K2 hBelow
          refine sv_last fun K2 hK2 => ?_
          simp only [pickM]
          have s1 := store25_run X.out rfl hr1
          go_wp2_with fail
          obtain ⟨x48, hx⟩ : ∃ X, X = World.setRow x47 (x46.heap.size) (u8s r1) := ⟨_, rfl⟩
          rw [← hx]
          have hSof : Sof (some V) x48 := by rw [hx]; exact below_setRow' HB.out hnX _
          have Z2 := Lib.hid (show Blk x48 (x46.heap.size) 25 (u8s r1) by rw [hx]; exact X.out.setRow _)
          have Y2 := Lib.hid (show Blk x48 (V.heap.size) 25 _ by rw [hx]; exact Y.out.farRow (by omega) _)
          have HB2 := Lib.hid hSof
          clear hx s1 HB X Y
          have X := Z2
          have HB := HB2
          clear Z2 HB2
          have Y := Y2
          clear Y2
          go_wp2_with fail
          refine hK2.out _ _ ?_
          clear hK2 K2
          refine sv_last fun K2 hK2 => ?_
          simp only [pickM]
          have s1 := store25_run Y.out rfl hr2
          go_wp2_with fail
          obtain ⟨x49, hx⟩ : ∃ X, X = World.setRow x48 (V.heap.size) (u8s r2) := ⟨_, rfl⟩
          rw [← hx]
          have hSof : Sof (some V) x49 := by rw [hx]; exact below_setRow' HB.out hnY _
          have Z2 := Lib.hid (show Blk x49 (V.heap.size) 25 (u8s r2) by rw [hx]; exact Y.out.setRow _)
          have X2 := Lib.hid (show Blk x49 (x46.heap.size) 25 _ by rw [hx]; exact X.out.farRow (by omega) _)
          have HB2 := Lib.hid hSof
          clear hx s1 HB Y X
          have Y := Z2
          have HB := HB2
          clear Z2 HB2
          have X := X2
          clear X2
          go_wp2_with fail
          refine hK2.out _ _ ?_
          clear hK2 K2
          change Exit.then _ _ _ _ _
          go_wp2_with fail
          go_meet
          exact ⟨_, _, rfl, rfl, X.out, Y.out, HV.out.step HB.out⟩
        · refine sv_act fun K2 hK2 => ?_
          simp only [pickM]
          go_wp2_with fail
          obtain ⟨x50, hx⟩ : ∃ X, X = World.alloc x45 (.cells (u8s (zer 32)) 25) := ⟨_, rfl⟩
          rw [← hx]
          have hBelow : Below x45.heap.size x45 x50 := by rw [hx]; exact (Below.refl _ _).alloc (Nat.le_refl _) _
          have hXY : V.heap.size < x45.heap.size := Y.out.lt
          have hnX : V.heap.size ≤ x45.heap.size := HB.out.size
          have Y := Lib.hid (Y.out.below hBelow Y.out.lt)
          have HB2 := Lib.hid (HB.out.trans (hBelow.mono HB.out.size))
          clear HB
          have HB := HB2
          clear HB2
          have X := Lib.hid (show Blk x50 x45.heap.size 25 (u8s (zer 32)) by rw [hx]; exact Blk.new x45 25 _)
          clear hx
          go_wp2_with fail
          have hsx50 := Lib.hid (Sof.step hsx45.out hBelow)
          refine hK2.out _ _ hsx50.out ?_
          clear hK2 K2 hBelow
          refine sv_act fun K2 hK2 => ?_
          simp only [pickM]
          go_wp2_with fail
          refine (HR2.out _ ((HV.out.step HB.out).p)).mono ?_
          rintro e x51 ⟨rfl, hBelow⟩
          have X := Lib.hid (X.out.below hBelow X.out.lt)
          have Y := Lib.hid (Y.out.below hBelow Y.out.lt)
          have HB2 := Lib.hid (HB.out.trans (hBelow.mono HB.out.size))
          clear HB
          have HB := HB2
          clear HB2
          go_wp2_with fail
          have hsx51 := Lib.hid (Sof.step hsx50.out hBelow)
          refine hK2.out _ _ hsx51.out ?_
          clear hK2 K2 hBelow
          refine sv_last fun K2 hK2 => ?_
          simp only [pickM]
          have s1 := store25_run X.out rfl hr1
          go_wp2_with fail
          obtain ⟨x52, hx⟩ : ∃ X, X = World.setRow x51 (x45.heap.size) (u8s r1) := ⟨_, rfl⟩
          rw [← hx]
          have hSof : Sof (some V) x52 := by rw [hx]; exact below_setRow' HB.out hnX _
          have Z2 := Lib.hid (show Blk x52 (x45.heap.size) 25 (u8s r1) by rw [hx]; exact X.out.setRow _)
          have Y2 := Lib.hid (show Blk x52 (V.heap.size) 25 _ by rw [hx]; exact Y.out.farRow (by omega) _)
          have HB2 := Lib.hid hSof
          clear hx s1 HB X Y
          have X := Z2
          have HB := HB2
          clear Z2 HB2
          have Y := Y2
          clear Y2
          go_wp2_with fail
          refine hK2.out _ _ ?_
          clear hK2 K2
          refine sv_last fun K2 hK2 => ?_
          simp only [pickM]
          have s1 := store25_run Y.out rfl hr2
          go_wp2_with fail
          obtain ⟨x53, hx⟩ : ∃ X, X = World.setRow x52 (V.heap.size) (u8s r2) := ⟨_, rfl⟩
          rw [← hx]
          have hSof : Sof (some V) x53 := by rw [hx]; exact below_setRow' HB.out hnY _
          have Z2 := Lib.hid (show Blk x53 (V.heap.size) 25 (u8s r2) by rw [hx]; exact Y.out.setRow _)
          have X2 := Lib.hid (show Blk x53 (x45.heap.size) 25 _ by rw [hx]; exact X.out.farRow (by omega) _)
          have HB2 := Lib.hid hSof
          clear hx s1 HB Y X
          have Y := Z2
          have HB := HB2
          clear Z2 HB2
          have X := X2
          clear X2
          go_wp2_with fail
          refine hK2.out _ _ ?_
          clear hK2 K2
          change Exit.then _ _ _ _ _
          go_wp2_with fail
          go_meet
          exact ⟨_, _, rfl, rfl, X.out, Y.out, HV.out.step HB.out⟩
      · refine sv_act fun K2 hK2 => ?_
        simp only [pickM]
        go_wp2_with fail
        obtain ⟨x54, hx⟩ : ∃ X, X = World.alloc x44 (.cells (u8s (zer 32)) 25) := ⟨_, rfl⟩
        rw [← hx]
        have hBelow : Below x44.heap.size x44 x54 := by rw [hx]; exact (Below.refl _ _).alloc (Nat.le_refl _) _
        have hXY : V.heap.size < x44.heap.size := Y.out.lt
        have hnX : V.heap.size ≤ x44.heap.size := HB.out.size
        have Y := Lib.hid (Y.out.below hBelow Y.out.lt)
        have HB2 := Lib.hid (HB.out.trans (hBelow.mono HB.out.size))
        clear HB
        have HB := HB2
        clear HB2
        have X := Lib.hid (show Blk x54 x44.heap.size 25 (u8s (zer 32)) by rw [hx]; exact Blk.new x44 25 _)
        clear hx
        go_wp2_with fail
        have hsx54 := Lib.hid (Sof.step hsx44.out hBelow)
        refine hK2.out _ _ hsx54.out ?_
        clear hK2 K2 hBelow
        refine sv_act fun K2 hK2 => ?_
        simp only [pickM]
        go_wp2_with fail
        refine (HR1.out _ ((HV.out.step HB.out).p)).mono ?_
        rintro e x55 ⟨rfl, hBelow⟩
        have X := Lib.hid (X.out.below hBelow X.out.lt)
        have Y := Lib.hid (Y.out.below hBelow Y.out.lt)
        have HB2 := Lib.hid (HB.out.trans (hBelow.mono HB.out.size))
        clear HB
        have HB := HB2
        clear HB2
        go_wp2_with fail
        have hsx55 := Lib.hid (Sof.step hsx54.out hBelow)
        refine hK2.out _ _ hsx55.out ?_
        clear hK2 K2 hBelow
        refine sv_act fun K2 hK2 => ?_
        simp only [pickM]
        go_wp2_with fail
        refine (HR2.out _ ((HV.out.step HB.out).p)).mono ?_
        rintro e x56 ⟨rfl, hBelow⟩
        have X := Lib.hid (X.out.below hBelow X.out.lt)
        have Y := Lib.hid (Y.out.below hBelow Y.out.lt)
        have HB2 := Lib.hid (HB.out.trans (hBelow.mono HB.out.size))
        clear HB
        have HB := HB2
        clear HB2
        go_wp2_with fail
        have hsx56 := Lib.hid (Sof.step hsx55.out hBelow)
        refine hK2.out _ _ hsx56.out ?_
        clear hK2 K2 hBelow
        refine sv_last fun K2 hK2 => ?_
        simp only [pickM]
        have s1 := store25_run X.out rfl hr1
        go_wp2_with fail
        obtain ⟨x57, hx⟩ : ∃ X, X = World.setRow x56 (x44.heap.size) (u8s r1) := ⟨_, rfl⟩
        rw [← hx]
        have hSof : Sof (some V) x57 := by rw [hx]; exact below_setRow' HB.out hnX _
        have Z2 := Lib.hid (show Blk x57 (x44.heap.size) 25 (u8s r1) by rw [hx]; exact X.out.setRow _)
        have Y2 := Lib.hid (show Blk x57 (V.heap.size) 25 _ by rw [hx]; exact Y.out.farRow (by omega) _)
        have HB2 := Lib.hid hSof
        clear hx s1 HB X Y
        have X := Z2
        have HB := HB2
        clear Z2 HB2
        have Y := Y2
        clear Y2
        go_wp2_with fail
        refine hK2.out _ _ ?_
        clear hK2 K2
        refine sv_last fun K2 hK2 => ?_
        simp only [pickM]
        have s1 := store25_run Y.out rfl hr2
        go_wp2_with fail
        obtain ⟨x58, hx⟩ : ∃ X, X = World.setRow x57 (V.heap.size) (u8s r2) := ⟨_, rfl⟩
        rw [← hx]
        have hSof : Sof (some V) x58 := by rw [hx]; exact below_setRow' HB.out hnY _
        have Z2 := Lib.hid (show Blk x58 (V.heap.size) 25 (u8s r2) by rw [hx]; exact Y.out.setRow _)
        have X2 := Lib.hid (show Blk x58 (x44.heap.size) 25 _ by rw [hx]; exact X.out.farRow (by omega) _)
        have HB2 := Lib.hid hSof
        clear hx s1 HB Y X
        have Y := Z2
        have HB := HB2
        clear Z2 HB2
        have X := X2
        clear X2
        go_wp2_with fail
        refine hK2.out _ _ ?_
        clear hK2 K2
        change Exit.then _ _ _ _ _
        go_wp2_with fail
        go_meet
        exact ⟨_, _, rfl, rfl, X.out, Y.out, HV.out.step HB.out⟩
  case rest =>
  obtain ⟨gx, gy, rfl, rfl, X9, Y9, M9⟩ := hcut
  have G := Lib.hid (And.intro X9 (And.intro Y9 M9))
  clear X9 Y9 M9 M HR1 HR2 sl
  have l1 := load32_run G.out.2.2.t
  go_wp2_with fail
  refine (HRC.out _ G.out.2.2.p).mono ?_
  rintro e w9 ⟨A2, c2, rfl, O9, B9⟩
  have G9 := Lib.hid (And.intro (G.out.1.below B9 G.out.1.lt) (And.intro (G.out.2.1.below B9 G.out.2.1.lt) (And.intro (G.out.2.2.step B9) O9.lv)))
  clear O9 B9 G HRC l1
  go_wp2_with fail
  go_loopg [17, 19] kq (fun f pv iv wr => ∃ (j : Nat) (P2 : Option Addr) (pc2 : Nat), j + f = kq ∧ pv = .slice P2 j pc2 ∧ iv = .int .i64 j ∧ OW wr w9.heap.size 25 32 P2 j pc2 (hcell (qc.take j)) ∧ Below w9.heap.size w9 wr)
  case atStart => exact ⟨0, none, 0, by omega, rfl, rfl, ow_nil _ _ _ _, Below.refl _ _⟩
  case round =>
  obtain ⟨j, P2, pc2, hjf, rfl, rfl, O, B0⟩ := hrel
  by_cases hj : j < kq
  · have hne := hcell_ne HQ.out.2 (by rw [HQ.out.1]; omega)
    cases A2 with
    | none => exact absurd (G9.out.2.2.2.1 rfl) hne
    | some ad =>
      obtain ⟨g, off, rfl, hg⟩ := lv_spot G9.out.2.2.2 hne
      have l1 := lv_dig (G9.out.2.2.2.below B0) HQ.out.2 j (by rw [HQ.out.1]; exact hj) Tryd.underlying24 dsize24
      have hdk := digs_at HQ.out.2 (k := j) (by rw [HQ.out.1]; exact hj)
      have ht : qc.take (j + 1) = qc.take j ++ [qc.getD j []] := by
        rw [List.take_succ_eq_append_getElem (by rw [HQ.out.1]; exact hj)]; simp [List.getD_eq_getElem?_getD, List.getElem?_eq_getElem (show j < qc.length by rw [HQ.out.1]; exact hj)]
      have HE2 := Lib.hid (And.intro hjf (And.intro O (And.intro B0 ht)))
      clear hjf O B0 ht hne
      generalize qc.getD j [] = d at *
      have hd32 := hdk.1
      have b1 := bs67_run d hd32
      go_wp2_with (at_builtin; refine wpList_appW 67 25 (.agg (u8s (zer 32))) 32 32 Tryd.underlying67 info25 rfl (by decide) rfl (.tmp 88) (.tmp 93) rfl w9.heap.size P2 j pc2 (hcell (qc.take j)) rfl (HE2.out.2.1.alloc _) (some ⟨wr.heap.size, 0, none⟩) 1 1 (bvals d) rfl (by rw [bvals_length, hd32]) (by intro e; cases e) (by rw [← u8s_bvals]; exact lv_blk (Blk.new wr 25 (u8s d))) (bvals_one d) (by omega) (by omega) (by have := HE2.out.2.2.1.size; simp; omega) ?_; intro P3 c3 w7 O1 B1; have H1 := Lib.hid (And.intro O1 B1); clear O1 B1)
      go_roundg (gk - 1)
      case measure => have := HE2.out.1; omega
      case rel =>
        obtain ⟨hjf, O, B0, ht⟩ := HE2.out
        obtain ⟨O1, B1⟩ := H1.out
        exact ⟨j + 1, P3, c3, by omega, rfl, by go_num, by rw [ht, hcell_snoc]; exact O1, (B0.alloc (by have := B0.size; omega) _).trans B1⟩
  obtain rfl : kq = j := by omega
  rw [List.take_of_length_le (by rw [HQ.out.1]; omega)] at O
  have hcp := O.cap'
  have hpn : P2 = none → pc2 = 0 := fun e => by
    subst e
    rcases O.2 with ⟨hv, _⟩ | ⟨g, cap', cur, hv, _⟩
    · injection hv
    · cases hv
  have G := Lib.hid (And.intro (G9.out.1.below B0 G9.out.1.lt) (And.intro (G9.out.2.1.below B0 G9.out.2.1.lt) (And.intro (G9.out.2.2.1.step B0) (And.intro O.lv hpn))))
  clear O B0 hj hjf G9 hpn
  go_upto_region 22 with (fail)
  go_cut [20] (fun v wx => ∃ (g20 : Nat) (root : List Nat) (n i : Int) (leaf : List Nat) (L : Option Addr) (la lc : Nat) (ps : List (List Nat)) (P : Option Addr) (k pc : Nat), v = .pointer (some ⟨g20, 0, none⟩) ∧ Blk wx g20 87 (clC root n i (.slice L la lc) (.slice P k pc)) ∧ root.length = 32 ∧ Bytes root ∧ leaf.length = la ∧ la ≤ lc ∧ Bytes leaf ∧ RW wx L lc leaf ∧ ps.length = k ∧ k ≤ pc ∧ pc ≤ 9223372036854775807 ∧ k ≤ 1000 ∧ Digs ps ∧ LV wx P (hcell ps) ∧ VcS w wx gt z0 z1 kd aa bb A' q)
  case first =>
    have HV := Lib.hid (And.intro G.out.1.drew (And.intro G.out.2.1.drew (And.intro (G.out.2.2.1.step (Below.refl _ _).drew) (And.intro (G.out.2.2.2.1.below (Below.refl _ _).drew) G.out.2.2.2.2))))
    have l1 := load25_run HV.out.2.1 hr2
    have sA := fun W => sl25 W gx
    have hb87 := fun (W : World) => bld87_run W r2 hr2 m i (some ⟨gx, 0, none⟩) P2 32 32 kq pc2
    have y0 := HV.out.2.2.1.c.cell 0
    have y1 := HV.out.2.2.1.c.cell 1
    have y2 := HV.out.2.2.1.c.cell 2
    simp only [List.getElem?_toArray, List.getElem?_cons_zero, List.getElem?_cons_succ] at y0 y1 y2
    refine wp_region_pv (.still [false, true, false, true, false, true, false, false, false, false, false] (.look [true, false, true, false, true, false, true, true, false, false, false] (.fork [false, false, false, false, false, false, false, false, true, false, false] (.act [false, false, false, false, false, false, false, false, false, true, false] (.last [false, false, false, false, false, false, false, false, false, false, true] .stop)) (.act [false, false, false, false, false, false, false, false, false, true, false] (.act [false, false, false, false, false, false, false, false, true, false, false] (.last [false, false, false, false, false, false, false, false, false, false, true] .stop)))))) (by kernel_rfl) (by kernel_rfl) (fun _ _ d _ _ h => by cases d <;> exact h) ?_
    generalize wr.drew = V at *
    have HB := Lib.hid (Below.refl V.heap.size V)
    refine sv_still fun K0 hK0 => ?_
    simp only [pickM]
    go_wp2_with fail
    refine hK0.out _ ?_
    clear hK0 K0
    refine sv_look fun K0 hK0 => ?_
    simp only [pickM]
    go_wp2_with fail
    refine hK0.out _ ?_
    clear hK0 K0
    refine sv_fork (fun K2 hK2 => ?_) ?_
    · simp only [pickM]
      go_wp2_with fail
      refine (changed_any _ r2 hr2 HB1.out.2 m i r1 (some ⟨gx, 0, none⟩) 32 32 hr1 (by omega) (Nat.le_refl _) HB1.out.1 (rw_blk (HV.out.1.below HB.out HV.out.1.lt)) qc P2 kq pc2 HQ.out.1 (by omega) HQ.out.2 (HV.out.2.2.2.1.below HB.out) HV.out.2.2.2.2 kd aa bb hkd haa hbb).mono ?_
      rintro e x1 ⟨root, nn, ii, leaf, L, la, lc, qs, P, k, pc, rfl, q1, q2, q3, q4, q5, q6, q7, q8, q9, q10, q11, q12, q13, q14, q15, hBelow⟩
      have HC := Lib.hid (And.intro q1 (And.intro q2 (And.intro q3 (And.intro q4 (And.intro q6 (And.intro q8 (And.intro q9 (And.intro q10 q12))))))))
      have HC2 := Lib.hid (And.intro q7 (And.intro q13 (And.intro q14 q15)))
      have hk11 := q11
      clear q1 q2 q3 q4 q5 q6 q7 q8 q9 q10 q11 q12 q13 q14 q15
      have HB2 := Lib.hid (HB.out.trans (hBelow.mono HB.out.size))
      clear HB
      have HB := HB2
      clear HB2
      go_wp2_with fail
      have hsx1 := Lib.hid (show Sof (some V) x1 from hBelow)
      refine hK2.out _ _ hsx1.out ?_
      clear hK2 K2 hBelow
      refine sv_act fun K2 hK2 => ?_
      simp only [pickM]
      go_wp2_with fail
      obtain ⟨x2, hx⟩ : ∃ X, X = World.alloc x1 (.cells z87 87) := ⟨_, rfl⟩
      rw [← hx]
      have hBelow : Below x1.heap.size x1 x2 := by rw [hx]; exact (Below.refl _ _).alloc (Nat.le_refl _) _
      have hVe : V.heap.size ≤ x1.heap.size := HB.out.size
      have E := Lib.hid (show Blk x2 x1.heap.size 87 z87 by rw [hx]; exact Blk.new x1 87 _)
      have hE0 : x1.heap.size < x2.heap.size := E.out.lt
      have HBC := Lib.hid hBelow
      clear hx
      have HB2 := Lib.hid (HB.out.trans (hBelow.mono HB.out.size))
      clear HB
      have HB := HB2
      clear HB2
      go_wp2_with fail
      have hsx2 := Lib.hid (Sof.step hsx1.out hBelow)
      refine hK2.out _ _ hsx2.out ?_
      clear hK2 K2 hBelow
      refine sv_last fun K2 hK2 => ?_
      simp only [pickM]
      have s1 := store87_run E.out (by rfl) (clC_size root HC.out.1 nn ii (.slice L la lc) (.slice P k pc)) (clC_one root nn ii L P la lc k pc)
      go_wp2_with fail
      obtain ⟨x3, hx⟩ : ∃ X, X = World.setRow x2 (x1.heap.size) (clC root nn ii (.slice L la lc) (.slice P k pc)) := ⟨_, rfl⟩
      rw [← hx]
      have E2 := Lib.hid (show Blk x3 (x1.heap.size) 87 (clC root nn ii (.slice L la lc) (.slice P k pc)) by rw [hx]; exact E.out.setRow _)
      have hbc := below_setRow' HBC.out (Nat.le_refl _) (clC root nn ii (.slice L la lc) (.slice P k pc))
      rw [← hx] at hbc
      have HR9 := Lib.hid (And.intro (HC2.out.1.below hbc) (HC2.out.2.1.below hbc))
      clear hbc HBC
      have HM9 := Lib.hid (show VcS w x3 gt z0 z1 kd aa bb A' q from HV.out.2.2.1.step (by rw [hx]; exact below_setRow' HB.out hVe _))
      clear hx s1 E HB
      go_wp2_with fail
      refine hK2.out _ _ ?_
      clear hK2 K2
      change Exit.then _ _ _ _ _
      go_wp2_with fail
      go_meet
      exact ⟨_, root, nn, ii, leaf, L, la, lc, qs, P, k, pc, rfl, E2.out, HC.out.1, HC.out.2.1, HC.out.2.2.1, HC.out.2.2.2.1, HC.out.2.2.2.2.1, HR9.out.1, HC.out.2.2.2.2.2.1, HC.out.2.2.2.2.2.2.1, HC.out.2.2.2.2.2.2.2.1, by omega, HC.out.2.2.2.2.2.2.2.2, HR9.out.2, HM9.out⟩
    · refine sv_act fun K2 hK2 => ?_
      simp only [pickM]
      go_wp2_with fail
      obtain ⟨x4, hx⟩ : ∃ X, X = World.alloc V (.cells z87 87) := ⟨_, rfl⟩
      rw [← hx]
      have hBelow : Below V.heap.size V x4 := by rw [hx]; exact (Below.refl _ _).alloc (Nat.le_refl _) _
      have hVe : V.heap.size ≤ V.heap.size := HB.out.size
      have E := Lib.hid (show Blk x4 V.heap.size 87 z87 by rw [hx]; exact Blk.new V 87 _)
      have hE0 : V.heap.size < x4.heap.size := E.out.lt
      clear hx
      have HB2 := Lib.hid (HB.out.trans (hBelow.mono HB.out.size))
      clear HB
      have HB := HB2
      clear HB2
      go_wp2_with fail
      have hsx4 := Lib.hid (show Sof (some V) x4 from hBelow)
      refine hK2.out _ _ hsx4.out ?_
      clear hK2 K2 hBelow
      refine sv_act fun K2 hK2 => ?_
      simp only [pickM]
      go_wp2_with fail
      refine (changed_any _ r2 hr2 HB1.out.2 m i r1 (some ⟨gx, 0, none⟩) 32 32 hr1 (by omega) (Nat.le_refl _) HB1.out.1 (rw_blk (HV.out.1.below HB.out HV.out.1.lt)) qc P2 kq pc2 HQ.out.1 (by omega) HQ.out.2 (HV.out.2.2.2.1.below HB.out) HV.out.2.2.2.2 kd aa bb hkd haa hbb).mono ?_
      rintro e x5 ⟨root, nn, ii, leaf, L, la, lc, qs, P, k, pc, rfl, q1, q2, q3, q4, q5, q6, q7, q8, q9, q10, q11, q12, q13, q14, q15, hBelow⟩
      have HC := Lib.hid (And.intro q1 (And.intro q2 (And.intro q3 (And.intro q4 (And.intro q6 (And.intro q8 (And.intro q9 (And.intro q10 q12))))))))
      have HC2 := Lib.hid (And.intro q7 (And.intro q13 (And.intro q14 q15)))
      have hk11 := q11
      clear q1 q2 q3 q4 q5 q6 q7 q8 q9 q10 q11 q12 q13 q14 q15
      have E := Lib.hid (E.out.below hBelow E.out.lt)
      have hE8 : V.heap.size < x4.heap.size := hE0
      have HB2 := Lib.hid (HB.out.trans (hBelow.mono HB.out.size))
      clear HB
      have HB := HB2
      clear HB2
      go_wp2_with fail
      have hsx5 := Lib.hid (Sof.step hsx4.out hBelow)
      refine hK2.out _ _ hsx5.out ?_
      clear hK2 K2 hBelow
      refine sv_last fun K2 hK2 => ?_
      simp only [pickM]
      have s1 := store87_run E.out (by rfl) (clC_size root HC.out.1 nn ii (.slice L la lc) (.slice P k pc)) (clC_one root nn ii L P la lc k pc)
      go_wp2_with fail
      obtain ⟨x6, hx⟩ : ∃ X, X = World.setRow x5 (V.heap.size) (clC root nn ii (.slice L la lc) (.slice P k pc)) := ⟨_, rfl⟩
      rw [← hx]
      have E2 := Lib.hid (show Blk x6 (V.heap.size) 87 (clC root nn ii (.slice L la lc) (.slice P k pc)) by rw [hx]; exact E.out.setRow _)
      have HR9 := Lib.hid (show RW x6 L lc leaf ∧ LV x6 P (hcell qs) by rw [hx]; exact ⟨rw_row HC2.out.1 (fun ad e => by have := HC2.out.2.2.1 ad e; omega) _, lv_row HC2.out.2.1 (fun ad e => by have := HC2.out.2.2.2 ad e; omega) _⟩)
      have HM9 := Lib.hid (show VcS w x6 gt z0 z1 kd aa bb A' q from HV.out.2.2.1.step (by rw [hx]; exact below_setRow' HB.out hVe _))
      clear hx s1 E HB
      go_wp2_with fail
      refine hK2.out _ _ ?_
      clear hK2 K2
      change Exit.then _ _ _ _ _
      go_wp2_with fail
      go_meet
      exact ⟨_, root, nn, ii, leaf, L, la, lc, qs, P, k, pc, rfl, E2.out, HC.out.1, HC.out.2.1, HC.out.2.2.1, HC.out.2.2.2.1, HC.out.2.2.2.2.1, HR9.out.1, HC.out.2.2.2.2.2.1, HC.out.2.2.2.2.2.2.1, HC.out.2.2.2.2.2.2.2.1, by omega, HC.out.2.2.2.2.2.2.2.2, HR9.out.2, HM9.out⟩
  case rest =>
  obtain ⟨g20, root, nn, ii, leaf, L, la, lc, qs, P, k, pc, rfl, E, hr, hrB, hll, hlc, hlB, hRW, hkl, hkp, hpc, hk, hd, hLV, M9⟩ := hcut
  have HX := Lib.hid (And.intro hr (And.intro hrB (And.intro hll (And.intro hlB (And.intro hkl hd)))))
  have G2 := Lib.hid (And.intro E (And.intro hRW (And.intro hLV M9)))
  clear hr hrB hll hlB hkl hd E hRW hLV M9 G
  go_upto_region 23 with (fail)
  have hdl : (digL leaf).length = 32 ∧ Bytes (digL leaf) := ⟨digL_length _, digL_bytes _ HX.out.2.2.2.1⟩
  have HDG := Lib.hid (fun W (s : RW W L lc leaf) => digest_any W leaf L la lc HX.out.2.2.1 hlc HX.out.2.2.2.1 s)
  generalize digL leaf = dl at *
  have HDL := Lib.hid hdl
  clear hdl
  have M := Lib.hid (And.intro G2.out.1.drew (And.intro (G2.out.2.1.below (Below.refl _ _).drew) (And.intro (G2.out.2.2.1.below (Below.refl _ _).drew) (G2.out.2.2.2.step (Below.refl _ _).drew))))
  clear G2
  have lr := load87_root M.out.1 HX.out.1
  have lt := load32_run M.out.2.2.2.t
  have f32 := (M.out.1.cell 32).trans (clC_32 root HX.out.1 nn ii _ _)
  have f33 := (M.out.1.cell 33).trans (clC_33 root HX.out.1 nn ii _ _)
  have f34 := (M.out.1.cell 34).trans (clC_34 root HX.out.1 nn ii (.slice L la lc) (.slice P k pc))
  have f35 := (M.out.1.cell 35).trans (clC_35 root HX.out.1 nn ii (.slice L la lc) (.slice P k pc))
  refine wp_region_pv (.look [true, true, false, true, true, true, true, true, true, true, true, false, true, true, true, false, true, true, true, true, true, true, true, true, false, false, false, false] (.act [false, false, true, false, false, false, false, false, false, false, false, false, false, false, false, false, false, false, false, false, false, false, false, false, false, false, false, false] (.act [false, false, false, false, false, false, false, false, false, false, false, true, false, false, false, false, false, false, false, false, false, false, false, false, false, false, false, false] (.act [false, false, false, false, false, false, false, false, false, false, false, false, false, false, false, true, false, false, false, false, false, false, false, false, false, false, false, false] (.act [false, false, false, false, false, false, false, false, false, false, false, false, false, false, false, false, false, false, false, false, false, false, false, false, true, false, false, false] (.last [false, false, false, false, false, false, false, false, false, false, false, false, false, false, false, false, false, false, false, false, false, false, false, false, false, true, false, false] (.look [false, false, false, false, false, false, false, false, false, false, false, false, false, false, false, false, false, false, false, false, false, false, false, false, false, false, true, true] .stop))))))) (by kernel_rfl) (by kernel_rfl) (fun _ _ d _ _ h => by cases d <;> exact h) ?_
  generalize wc.drew = V at *
  refine sv_look fun K0 hK0 => ?_
  simp only [pickM]
  go_wp2_with fail
  refine hK0.out _ ?_
  clear hK0 K0
  refine sv_act fun K2 hK2 => ?_
  simp only [pickM]
  go_wp2_with fail
  refine (HDG.out _ M.out.2.1).mono ?_
  rintro e x1 ⟨rfl, hBelow⟩
  have M := Lib.hid (And.intro (M.out.1.below hBelow M.out.1.lt) (And.intro (M.out.2.1.below hBelow) (And.intro (M.out.2.2.1.below hBelow) (M.out.2.2.2.step hBelow))))
  go_wp2_with fail
  have hsx1 := Lib.hid (show Sof (some V) x1 from hBelow)
  refine hK2.out _ _ hsx1.out ?_
  clear hK2 K2 hBelow
  refine sv_act fun K2 hK2 => ?_
  simp only [pickM]
  go_wp2_with fail
  refine (mvcons_all _ M.out.2.2.2.a.t dl root HDL.out.1 HX.out.1 HDL.out.2 ii nn qs P k pc HX.out.2.2.2.2.1 (by omega) hkp hpc HX.out.2.2.2.2.2 M.out.2.2.1).mono ?_
  rintro e x2 ⟨rfl, hBelow⟩
  have M := Lib.hid (And.intro (M.out.1.below hBelow M.out.1.lt) (And.intro (M.out.2.1.below hBelow) (And.intro (M.out.2.2.1.below hBelow) (M.out.2.2.2.step hBelow))))
  go_wp2_with fail
  have hsx2 := Lib.hid (Sof.step hsx1.out hBelow)
  refine hK2.out _ _ hsx2.out ?_
  clear hK2 K2 hBelow
  refine sv_act fun K2 hK2 => ?_
  simp only [pickM]
  go_wp2_with fail
  refine (HDG.out _ M.out.2.1).mono ?_
  rintro e x3 ⟨rfl, hBelow⟩
  have M := Lib.hid (And.intro (M.out.1.below hBelow M.out.1.lt) (And.intro (M.out.2.1.below hBelow) (And.intro (M.out.2.2.1.below hBelow) (M.out.2.2.2.step hBelow))))
  go_wp2_with fail
  have hsx3 := Lib.hid (Sof.step hsx2.out hBelow)
  refine hK2.out _ _ hsx3.out ?_
  clear hK2 K2 hBelow
  refine sv_act fun K2 hK2 => ?_
  simp only [pickM]
  go_wp2_with fail
  refine (to_any _ qs P k pc HX.out.2.2.2.2.1 HX.out.2.2.2.2.2 (by omega) M.out.2.2.1).mono ?_
  rintro e x4 ⟨TA, tc, rfl, OT, hBelow⟩
  have M := Lib.hid (And.intro (M.out.1.below hBelow M.out.1.lt) (And.intro (M.out.2.1.below hBelow) (And.intro (M.out.2.2.1.below hBelow) (M.out.2.2.2.step hBelow))))
  have HT := Lib.hid (And.intro OT.lv OT.cap')
  clear OT
  go_wp2_with fail
  have hsx4 := Lib.hid (Sof.step hsx3.out hBelow)
  refine hK2.out _ _ hsx4.out ?_
  clear hK2 K2 hBelow
  refine sv_last fun K2 hK2 => ?_
  simp only [pickM]
  go_wp2_with fail
  refine (rvcons_all _ dl root HDL.out.1 HX.out.1 HDL.out.2 ii nn qs TA k tc HX.out.2.2.2.2.1 (by omega) HT.out.2.1 (by have := HT.out.2.2; unfold maxLen at this; omega) HX.out.2.2.2.2.2 HT.out.1).mono ?_
  rintro e x5 ⟨rfl, hBelow⟩
  have M := Lib.hid (And.intro (M.out.1.below hBelow M.out.1.lt) (And.intro (M.out.2.1.below hBelow) (And.intro (M.out.2.2.1.below hBelow) (M.out.2.2.2.step hBelow))))
  clear HT
  go_wp2_with fail
  refine hK2.out _ _ ?_
  clear hK2 K2 hBelow
  refine sv_look fun K0 hK0 => ?_
  simp only [pickM]
  go_wp2_with fail
  refine hK0.out _ ?_
  clear hK0 K0
  change Exit.then _ _ _ _ _
  go_wp2_with fail
  go_ret
  exact ⟨rfl, M.out.2.2.2.a.b⟩
end Go.Proofs.YtediocpdpghbfaaDoor
