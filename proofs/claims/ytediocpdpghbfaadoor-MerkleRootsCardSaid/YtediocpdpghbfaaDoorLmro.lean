/- The law of MerkleRoots: the walk. -/
import Derived.Test.YtediocpdpghbfaaDoorGenP
import Derived.Test.YtediocpdpghbfaaDoorMerP
import Derived.Test.YtediocpdpghbfaaDoorMkno
set_option linter.unusedSimpArgs false
set_option linter.unusedVariables false
namespace Go.Proofs.YtediocpdpghbfaaDoor
open Go Go.RowKit

theorem pw_below {w w' : World} {A : Option Addr} {ps : List (List Nat)} (h : PW w A ps) (hb : Below w.heap.size w w') : PW w' A ps := by
  rcases h with h | ⟨g, off, hA, hg, hc⟩
  · exact .inl h
  · refine .inr ⟨g, off, hA, Nat.lt_of_lt_of_le hg hb.size, fun j hj => ?_⟩
    obtain ⟨Aj, cj, c1, c2, c3, c4, c5⟩ := hc j hj
    exact ⟨Aj, cj, (hb.cell (p := ⟨g, off + j, none⟩) hg).trans c1, c2, c3, c4, c5.below hb⟩
theorem sl41_hG (A : Option Addr) (n cap k : Nat) (hk : k ≤ cap) (w : World) :
    (Instr.sliceAt 41 (.slice A n cap) none (some (.int .i64 (k : Int))) none).run Tryd.prog w = .ok (.slice A k cap) w := by
  have hs := size22
  rw [run_sliceAt_slice w 41 _ _ _ _ (by rw [elem41]; exact Tryd.underlying41), run_slice_h w 41 _ n cap (by rw [elem41]; exact Tryd.underlying41) .i64 k (by omega) (by omega)]
  cases hq : Tryd.prog.info? 22 with
  | none => simp [hq] at hs
  | some i =>
    have hi : i.size = 1 := by simpa [hq] using hs
    cases A <;> simp [elem41, sizeOf, typeInfo, hq, hi, sliced, Addr.add]
structure MrSt (w w4 W : World) (gr gt gT : Nat) (r : List Nat) (i : Nat) (hs : List (List Nat)) (A : Option Addr) (q : List (List Nat)) : Prop where
  e : Blk W gr 25 (u8s r)
  a : At w W
  t : Blk W gt 32 (u32s TT)
  p : PL W A q
  tr : Blk W gT 111 (treeC i hs)
  b : Below gT w4 W
theorem MrSt.step {w w4 W W' : World} {gr gt gT : Nat} {r : List Nat} {i : Nat} {hs : List (List Nat)} {A : Option Addr} {q : List (List Nat)} (h : MrSt w w4 W gr gt gT r i hs A q) (b : Below W.heap.size W W') : MrSt w w4 W' gr gt gT r i hs A q :=
  ⟨h.e.below b h.e.lt, h.a.step b, h.t.below b h.t.lt, h.p.below b, h.tr.below b h.tr.lt, h.b.trans (b.mono (Nat.le_of_lt h.tr.lt))⟩
attribute [local go_sem ↓] ld25 st25 ld32 st32
set_option maxRecDepth 100000 in
set_option maxHeartbeats 4000000 in
theorem law_merkleRoots (w : World) (hT : Tabs w) (ps : List (List Nat)) (A : Option Addr) (ca n : Nat) (ln : ps.length = n) (ha : n ≤ ca) (hca : ca ≤ 9223372036854775807) (hp : PW w A ps) :
    Calls Tryd.prog 12 #[.slice A n ca] w fun e w' => e = .returned (.bool true) ∧ Below w.heap.size w w' := by
  have H0 := Lib.hid (And.intro hT (And.intro ln hp))
  clear hT ln hp
  go_enter Tryd.func12, Tryd.ntmps12
  go_wp2_with fail
  refine (mknown_any _ H0.out.1).mono ?_
  rintro e w1 ⟨rfl, B1⟩
  have A1 := Lib.hid (At.mk H0.out.1 B1)
  clear B1
  go_wp2_with fail
  refine (rmake_any _).mono ?_
  rintro e w2 ⟨rfl, B2⟩
  have A2 := Lib.hid (A1.out.step B2)
  clear B2 A1
  go_wp2_with (refine wpList_fillM rfl 32 (.tmp 3) (.tmp 10) rfl (u32s TT) rfl rfl (size32 _ TT_length) (by rw [u32s_size, TT_length]; rfl) (u32s_one _) ?_; intro w3 E3 B3; have A3 := Lib.hid (And.intro E3 (A2.out.step B3)); clear E3 B3)
  generalize w2.heap.size = gt at *
  refine (few_any w3 ps A ca n H0.out.2.1 ha hca (by have := H0.out.2.2; exact pw_below this A3.out.2.b)).mono ?_
  rintro e w4 ⟨A', c', vs, rfl, O4, V4, B4⟩
  have hm20 : (fewL ps).length ≤ 20 := by rw [fewL_length]; omega
  have hcc := O4.cap'
  have A4 := Lib.hid (And.intro (A3.out.1.below B4 A3.out.1.lt) (And.intro (pl_of O4.lv V4) (A3.out.2.step B4)))
  clear O4 V4 B4
  generalize fewL ps = q at *
  obtain ⟨m, hm⟩ : ∃ m, q.length = m := ⟨_, rfl⟩
  rw [hm] at hm20 hcc ⊢
  have HM := Lib.hid hm
  clear hm
  go_wp2_with fail
  refine (mnew_any w4).mono ?_
  rintro e w5 ⟨rfl, E5, B5⟩
  go_wp2_with fail
  have two4 : w.heap.size ≤ w4.heap.size := A4.out.2.2.le
  have hgt : gt < w4.heap.size := A4.out.1.lt
  obtain ⟨gT, hgT⟩ : ∃ gT, w4.heap.size = gT := ⟨_, rfl⟩
  rw [hgT] at E5 B5 two4 hgt ⊢
  have A5 := Lib.hid (And.intro E5 (And.intro B5 hgT))
  clear E5 B5 hgT
  go_loopg [5] (m + 1) (fun f iv wr => ∃ (i : Nat) (hs : List (List Nat)), i + f = m + 1 ∧ iv = .int .i64 i ∧ (i ≤ m → Blk wr gT 111 (treeC i hs) ∧ TInv i hs (q.take i)) ∧ Below gT w4 wr)
  case atStart => exact ⟨0, zt, by omega, rfl, fun _ => ⟨A5.out.1, tinv_zero⟩, A5.out.2.1⟩
  case round =>
    obtain ⟨i, hs, hif, rfl, hT, B0⟩ := hrel
    have hgw := A5.out.2.2
    have S0 : At w wr := ⟨A4.out.2.2.t0, A4.out.2.2.b.trans (B0.mono (by omega))⟩
    have T0 := A4.out.1.below B0 (by omega)
    have P0 := A4.out.2.1.below (hgw.symm ▸ B0)
    by_cases hi : i ≤ m
    · obtain ⟨E0, I0⟩ := hT hi
      clear hT
      have HE := Lib.hid (And.intro hif (And.intro B0 (And.intro S0 (And.intro T0 (And.intro P0 (And.intro E0 I0))))))
      clear hif B0 S0 T0 P0 E0 I0 hgw
      have sl := fun W => sl41_hG A' m c' i (by omega) W
      have hrl := mrootL_length (q.take i)
      have eqd := fun W => run_equalIn_dig W (mrootL (q.take i)) (mrootL (q.take i)) hrl hrl
      have hdec : decide (mrootL (q.take i) = mrootL (q.take i)) = true := by simp
      have HR := Lib.hid (fun W (s : At w W) (h : PL W A' q) => mroot_any i (q.take i) W A' c' (by rw [List.length_take, HM.out]; omega) (by omega) (by omega) (by unfold maxLen at hcc; omega) s.t (h.take i))
      have HQ := Lib.hid (fun W (h : PL W A' q) => rroot_any i (q.take i) W A' c' (by rw [List.length_take, HM.out]; omega) (by omega) (by omega) (by unfold maxLen at hcc; omega) (h.take i))
      have HRT := Lib.hid (fun W (s : At w W) (E : Blk W gT 111 (treeC i hs)) => mtroot_any W s.t gT i (by omega) hs HE.out.2.2.2.2.2.2.hl HE.out.2.2.2.2.2.2.hd E)
      rw [troot_eq i hs (q.take i) HE.out.2.2.2.2.2.2 (by omega)] at HRT
      generalize mrootL (q.take i) = r at *
      go_wp2_with fail
      refine (HR.out _ HE.out.2.2.1 HE.out.2.2.2.2.1).mono ?_
      rintro e w6 ⟨rfl, B6⟩
      have H6 := Lib.hid (And.intro (HE.out.2.2.1.step B6) (And.intro (HE.out.2.2.2.1.below B6 HE.out.2.2.2.1.lt) (And.intro (HE.out.2.2.2.2.1.below B6) (And.intro (HE.out.2.2.2.2.2.1.below B6 HE.out.2.2.2.2.2.1.lt) (HE.out.2.1.trans (B6.mono (Nat.le_of_lt HE.out.2.2.2.2.2.1.lt)))))))
      clear B6
      go_wp2_with (refine wpList_fillM rfl 25 (.tmp 6) (.tmp 25) rfl (u8s r) rfl rfl (size25 _ hrl) (by rw [u8s_size, hrl]; rfl) (u8s_one _) ?_; intro w7 E7 B7; have H7 := Lib.hid (MrSt.mk (w := w) (w4 := w4) (gT := gT) E7 (H6.out.1.step B7) (H6.out.2.1.below B7 H6.out.2.1.lt) (H6.out.2.2.1.below B7) (H6.out.2.2.2.1.below B7 H6.out.2.2.2.1.lt) (H6.out.2.2.2.2.trans (B7.mono (Nat.le_of_lt H6.out.2.2.2.1.lt)))); clear E7 B7)
      generalize w6.heap.size = gr at *
      clear H6
      have H7' := Lib.hid (H7.out.step (Below.refl _ _).drew)
      clear H7
      have H7 := H7'
      clear H7'
      have l1 := load25_run H7.out.e hrl
      have l2 := load32_run H7.out.t
      refine wp_region_sego [0, 0, 0, 0, 0, 0, 0, 0, 0, 0, 0, 0, 1, 2, 2, 2, 2, 3, 2, 4, 4, 4, 4, 5, 4, 6, 6] [false, false, false] (by kernel_rfl) (by kernel_rfl) (fun _ _ d _ _ h => by cases d <;> exact h) (sego_go fun K0 hK0 => ?_)
      simp only [pickC, ↓reduceIte, Nat.reduceEqDiff, Nat.reduceAdd]
      go_wp2_with fail
      refine hK0.out _ (sego_act fun K2 hK2 => ?_)
      clear hK0 K0
      simp only [pickC, ↓reduceIte, Nat.reduceEqDiff, Nat.reduceAdd]
      go_wp2_with fail
      refine (HQ.out _ H7.out.p).mono ?_
      rintro e w8 ⟨rfl, hBelow⟩
      have H8 := Lib.hid (H7.out.step hBelow)
      have l3 := load25_run H8.out.e hrl
      go_wp2_with fail
      refine hK2.out _ _ hBelow (sego_go fun K0 hK0 => ?_)
      clear hK2 K2 hBelow
      simp only [pickC, ↓reduceIte, Nat.reduceEqDiff, Nat.reduceAdd]
      go_wp2_with fail
      refine hK0.out _ (sego_act fun K2 hK2 => ?_)
      clear hK0 K0
      simp only [pickC, ↓reduceIte, Nat.reduceEqDiff, Nat.reduceAdd]
      go_wp2_with fail
      refine (mlen_any _ gT i hs H8.out.tr).mono ?_
      rintro e w8' ⟨rfl, rfl⟩
      go_wp2_with fail
      refine hK2.out _ _ (Below.refl _ _) (sego_go fun K0 hK0 => ?_)
      clear hK2 K2
      simp only [pickC, ↓reduceIte, Nat.reduceEqDiff, Nat.reduceAdd]
      go_wp2_with fail
      refine hK0.out _ (sego_act fun K2 hK2 => ?_)
      clear hK0 K0
      simp only [pickC, ↓reduceIte, Nat.reduceEqDiff, Nat.reduceAdd]
      go_wp2_with fail
      refine (HRT.out _ H8.out.a H8.out.tr).mono ?_
      rintro e w9 ⟨rfl, hBelow⟩
      have H9 := Lib.hid (H8.out.step hBelow)
      go_wp2_with fail
      refine hK2.out _ _ hBelow (sego_end fun K0 hK0 => ?_)
      clear hK2 K2 hBelow
      simp only [pickC, ↓reduceIte, Nat.reduceEqDiff, Nat.reduceAdd]
      go_wp2_with fail
      refine hK0.out _ ?_
      clear hK0 K0
      clear l1 l2 l3
      by_cases him : i < m
      · rcases H9.out.p with hnil | ⟨pg, po, rfl, hpg, hc⟩
        · have := HM.out; rw [hnil] at this; simp at this; omega
        obtain ⟨Aj, cj, c1, c2, c3, c4, c5⟩ := hc i (by rw [HM.out]; exact him)
        obtain ⟨x, hx⟩ : ∃ x, (q.getD i []).length = x := ⟨_, rfl⟩
        obtain ⟨k, hk16, hk1, hk0⟩ := ones_ex i (by omega)
        have hap := mappend_any w9 H9.out.a.t gT i k hs (by omega) hk16 hk1 hk0 HE.out.2.2.2.2.2.2.hl HE.out.2.2.2.2.2.2.hd H9.out.tr (q.getD i []) Aj x cj hx (by omega) (by omega) c4 c5
        have hinv := tinv_append i k hs (q.take i) (q.getD i []) HE.out.2.2.2.2.2.2 hk16 hk1 hk0
        have hqt : q.take i ++ [q.getD i []] = q.take (i + 1) := by
          rw [List.take_succ_eq_append_getElem (by rw [HM.out]; exact him)]; simp [List.getD_eq_getElem?_getD, List.getElem?_eq_getElem (show i < q.length by rw [HM.out]; exact him)]
        rw [hqt] at hinv
        rw [hx] at c1
        have t1 : decide (i < m) = true := by simp; omega
        have t2 : (m : Int) ≤ 20 := by omega
        have HA := Lib.hid (And.intro hap hinv)
        clear hap hinv hqt hc c2 c3 c4 c5 hx hk1 hk0
        go_wp2_with fail
        refine HA.out.1.mono ?_
        rintro e w10 ⟨rfl, E10, G10⟩
        have HG := Lib.hid (And.intro E10 G10)
        clear E10 G10 c1
        go_wp2_with fail
        go_roundg (gk - 1)
        case measure => have := HE.out.1; omega
        case rel =>
          have hif := HE.out.1
          have h9 := H9.out.b
          exact ⟨i + 1, _, by omega, by go_num, fun _ => ⟨HG.out.1, HA.out.2⟩, h9.grown HG.out.2 (by have := A5.out.2.2; have := h9.size; omega) (fun k hk => by injection hk with hk; omega)⟩
      · obtain rfl : i = m := by omega
        have t1 : decide (i < i) = false := by simp
        clear him
        go_wp2_with fail
        go_roundg (gk - 1)
        case measure => have := HE.out.1; omega
        case rel =>
          have hif := HE.out.1
          exact ⟨i + 1, hs, by omega, by go_num, fun h => by omega, H9.out.b⟩
    · have HE := Lib.hid S0
      clear hT hif B0 S0 T0 P0 hgw
      have t0 : ¬ (i : Int) ≤ m := by omega
      clear hi
      go_wp2_with fail
      go_ret
      exact ⟨rfl, HE.out.b⟩
end Go.Proofs.YtediocpdpghbfaaDoor
