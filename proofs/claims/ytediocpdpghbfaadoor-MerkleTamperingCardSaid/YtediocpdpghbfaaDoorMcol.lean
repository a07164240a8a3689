/- Merkle: Collision (63), walked. -/
import Derived.Test.YtediocpdpghbfaaDoorColp
import Derived.Test.YtediocpdpghbfaaDoorRegv
import Derived.Deep.DeepCutAuto
set_option linter.unusedSimpArgs false
set_option linter.unusedVariables false
namespace Go.Proofs.YtediocpdpghbfaaDoor
open Go Go.RowKit

def nilS : Value := .slice none 0 0
def ColRes (w w' : World) (e : Ending) (same : Prop) : Prop :=
  ((same → e = .returned (.tuple #[.slice none 0 0, .slice none 0 0, .int .i64 1])) ∧ (¬ same → ∃ (u v : List Nat) (U V : Option Addr) (cu cv : Nat), e = .returned (.tuple #[.slice U u.length cu, .slice V v.length cv, .int .i64 0]) ∧ u ≠ v ∧ sha u = sha v ∧ Bytes u ∧ Bytes v ∧ u.length ≤ cu ∧ v.length ≤ cv ∧ u.length ≤ 100000 ∧ v.length ≤ 100000 ∧ RW w' U cu u ∧ RW w' V cv v)) ∧ Below w.heap.size w w'
theorem verifyL_zero {root : List Nat} {n i : Nat} {leaf : List Nat} {ps : List (List Nat)} (h : verifyL root n i leaf ps = 0) : ps.length = (sidesL n i).length ∧ foldS (leafL leaf) (sidesL n i) ps = root := by
  unfold verifyL at h
  split at h
  · cases h
  · split at h
    · cases h
    · rename_i h1 h2
      exact ⟨by omega, by simpa using h2⟩
attribute [local go_sem ↓] ld25 st25
set_option maxRecDepth 100000 in
set_option maxHeartbeats 2000000 in
theorem mcol_no (w : World) (hT : Tabs w) (root : List Nat) (hr : root.length = 32) (n i : Nat) (hn1 : 1 ≤ n) (hn : n ≤ 65536) (hi : i < n)
    (a : List Nat) (A : Option Addr) (la ca : Nat) (hla : a.length = la) (hlc : la ≤ ca) (hl2 : la ≤ 2000) (haB : Bytes a) (haR : RW w A ca a) (ps : List (List Nat)) (P : Option Addr) (k pc : Nat) (hk : ps.length = k) (hk2 : k ≤ 65536) (hd : Digs ps) (hP : LV w P (hcell ps))
    (b : List Nat) (B : Option Addr) (lb cb : Nat) (hlb : b.length = lb) (hlcb : lb ≤ cb) (hlb2 : lb ≤ 2000) (hbB : Bytes b) (hbR : RW w B cb b) (qs : List (List Nat)) (Q : Option Addr) (m qc : Nat) (hm : qs.length = m) (hm2 : m ≤ 65536) (hdq : Digs qs) (hQ : LV w Q (hcell qs))
    (va : verifyL root n i a ps = 0) (vb : verifyL root n i b qs ≠ 0) :
    Calls Tryd.prog 63 #[.agg (u8s root), .int .i64 n, .int .i64 i, .slice A la ca, .slice P k pc, .slice B lb cb, .slice Q m qc] w fun e w' => e = .returned (.tuple #[.slice none 0 0, .slice none 0 0, .int .i64 (verifyL root n i b qs)]) ∧ Below w.heap.size w w' := by
  have E0 : Blk (w.alloc (.cells (u8s root) 25)) w.heap.size 25 (u8s root) := Blk.new _ _ _
  have A0 : At w (w.alloc (.cells (u8s root) 25)) := ⟨hT, (Below.refl _ _).alloc (Nat.le_refl _) _⟩
  have HA := Lib.hid (fun W (s : At w W) => mverify_any W s.t root hr n i hn1 hn hi a A la ca hla hlc hl2 haB (haR.below s.b) ps P k pc hk hk2 hd (hP.below s.b))
  have HB := Lib.hid (fun W (s : At w W) => mverify_any W s.t root hr n i hn1 hn hi b B lb cb hlb hlcb hlb2 hbB (hbR.below s.b) qs Q m qc hm hm2 hdq (hQ.below s.b))
  rw [va] at HA
  have H0 := Lib.hid (And.intro E0 A0)
  clear E0 A0 haR hP hbR hQ va hT hd hdq haB hbB
  generalize verifyL root n i b qs = V at *
  have l0 := load25_run H0.out.1 hr
  have t1 : ((V : Int) != 0) = true := by rw [bne_iff_ne]; exact vb
  have HV := Lib.hid vb
  clear vb hla hk hlb hm
  go_enter Tryd.func63, Tryd.ntmps63
  go_wp2_with fail
  generalize w.alloc (.cells (u8s root) 25) = w1 at *
  refine (HA.out _ H0.out.2).mono ?_
  rintro e w2 ⟨rfl, B2⟩
  have H2 := Lib.hid (And.intro (H0.out.1.below B2 H0.out.1.lt) (H0.out.2.step B2))
  clear B2 H0 l0
  have l0 := load25_run H2.out.1 hr
  go_wp2_with fail
  refine (HB.out _ H2.out.2).mono ?_
  rintro e w3 ⟨rfl, B3⟩
  have H3 := Lib.hid (H2.out.2.step B3)
  clear B3 H2 l0
  go_wp2_with fail
  go_ret3
  exact ⟨rfl, H3.out.b⟩
set_option maxRecDepth 100000 in
set_option maxHeartbeats 8000000 in
theorem mcol_yes (w : World) (hT : Tabs w) (root : List Nat) (hr : root.length = 32) (n i : Nat) (hn1 : 1 ≤ n) (hn : n ≤ 65536) (hi : i < n)
    (a : List Nat) (A : Option Addr) (la ca : Nat) (hla : a.length = la) (hlc : la ≤ ca) (hl2 : la ≤ 2000) (haB : Bytes a) (haR : RW w A ca a) (ps : List (List Nat)) (P : Option Addr) (k pc : Nat) (hk : ps.length = k) (hk2 : k ≤ 65536) (hd : Digs ps) (hP : LV w P (hcell ps))
    (b : List Nat) (B : Option Addr) (lb cb : Nat) (hlb : b.length = lb) (hlcb : lb ≤ cb) (hlb2 : lb ≤ 2000) (hbB : Bytes b) (hbR : RW w B cb b) (qs : List (List Nat)) (Q : Option Addr) (m qc : Nat) (hm : qs.length = m) (hm2 : m ≤ 65536) (hdq : Digs qs) (hQ : LV w Q (hcell qs))
    (va : verifyL root n i a ps = 0) (vb : verifyL root n i b qs = 0) :
    Calls Tryd.prog 63 #[.agg (u8s root), .int .i64 n, .int .i64 i, .slice A la ca, .slice P k pc, .slice B lb cb, .slice Q m qc] w fun e w' => ColRes w w' e (a = b ∧ ps = qs) := by
  have E0 : Blk (w.alloc (.cells (u8s root) 25)) w.heap.size 25 (u8s root) := Blk.new _ _ _
  have A0 : At w (w.alloc (.cells (u8s root) 25)) := ⟨hT, (Below.refl _ _).alloc (Nat.le_refl _) _⟩
  have HA := Lib.hid (fun W (s : At w W) => mverify_any W s.t root hr n i hn1 hn hi a A la ca hla hlc hl2 haB (haR.below s.b) ps P k pc hk hk2 hd (hP.below s.b))
  have HB := Lib.hid (fun W (s : At w W) => mverify_any W s.t root hr n i hn1 hn hi b B lb cb hlb hlcb hlb2 hbB (hbR.below s.b) qs Q m qc hm hm2 hdq (hQ.below s.b))
  obtain ⟨ea, fa⟩ := verifyL_zero va
  obtain ⟨eb, fb⟩ := verifyL_zero vb
  rw [va] at HA
  rw [vb] at HB
  obtain rfl : k = m := by omega
  have hsl : (sidesL n i).length = k := by omega
  have HS := Lib.hid (fun W => sides_any n i hn1 hn hi W)
  have HPA := Lib.hid (fun W (s : At w W) R rc (hRs : LV W R ((sidesL n i).map Value.bool)) => path_any W s.t a A la ca hla hlc hl2 haB (haR.below s.b) (sidesL n i) R k rc hsl hk2 hRs ps P pc hk hd (hP.below s.b))
  have HPB := Lib.hid (fun W (s : At w W) R rc (hRs : LV W R ((sidesL n i).map Value.bool)) => path_any W s.t b B lb cb hlb hlcb hlb2 hbB (hbR.below s.b) (sidesL n i) R k rc hsl hk2 hRs qs Q qc hm hdq (hQ.below s.b))
  rw [hsl] at HS
  have hlx := stepsL_length a (sidesL n i) ps k
  have hly := stepsL_length b (sidesL n i) qs k
  -- the plain law
  have hend : (∀ j, j ≤ k → hX a (sidesL n i) ps j = hX b (sidesL n i) qs j → inX a (sidesL n i) ps j = inX b (sidesL n i) qs j) → a = b ∧ ps = qs := fun hno => by
    have h1 : hX a (sidesL n i) ps k = hX b (sidesL n i) qs k := by
      unfold hX
      rw [List.take_of_length_le (by omega), List.take_of_length_le (by omega), List.take_of_length_le (by omega), fa, fb]
    obtain ⟨e1, e2⟩ := steps_same a b (sidesL n i) ps qs k hk hm hd hdq hno k (Nat.le_refl _) h1
    exact ⟨e1, list_same hk hm e2⟩
  have hat : ∀ j, j ≤ k → (stepsL a (sidesL n i) ps k).getD j ([], []) = (inX a (sidesL n i) ps j, hX a (sidesL n i) ps j) ∧ (stepsL b (sidesL n i) qs k).getD j ([], []) = (inX b (sidesL n i) qs j, hX b (sidesL n i) qs j) := fun j hj => ⟨steps_at _ _ _ k j hj, steps_at _ _ _ k j hj⟩
  have hsha : ∀ j, j ≤ k → hX a (sidesL n i) ps j = sha (inX a (sidesL n i) ps j) ∧ hX b (sidesL n i) qs j = sha (inX b (sidesL n i) qs j) := fun j hj => ⟨hX_sha _ _ _ j (by omega) (by omega), hX_sha _ _ _ j (by omega) (by omega)⟩
  have hl32 : ∀ j, (hX a (sidesL n i) ps j).length = 32 ∧ (hX b (sidesL n i) qs j).length = 32 := fun j => ⟨hX_len _ _ _ j, hX_len _ _ _ j⟩
  have hsame : a = b ∧ ps = qs → ∀ j, inX a (sidesL n i) ps j = inX b (sidesL n i) qs j := by rintro ⟨rfl, rfl⟩ j; rfl
  have HL := Lib.hid (And.intro hend (And.intro hat (And.intro hsha (And.intro hl32 hsame))))
  have HE := Lib.hid (And.intro E0 A0)
  have HX := Lib.hid (And.intro hlx hly)
  clear hend hat hsha hl32 hsame E0 A0 hlx hly haR hP hbR hQ va vb ea eb fa fb hT hd hdq haB hbB hsl
  generalize sidesL n i = S at *
  generalize stepsL a S ps k = X at *
  generalize stepsL b S qs k = Y at *
  obtain ⟨same, hs⟩ : ∃ same : Prop, same = (a = b ∧ ps = qs) := ⟨_, rfl⟩
  rw [← hs] at HL ⊢
  generalize hX a S ps = hx at *
  generalize hX b S qs = hy at *
  generalize inX a S ps = ix at *
  generalize inX b S qs = iy at *
  clear hs hla hk hlb hm
  have l0 := load25_run HE.out.1 hr
  go_enter Tryd.func63, Tryd.ntmps63
  go_wp2_with fail
  generalize w.alloc (.cells (u8s root) 25) = w1 at *
  refine (HA.out _ HE.out.2).mono ?_
  rintro e w2 ⟨rfl, B2⟩
  have H2 := Lib.hid (And.intro (HE.out.1.below B2 HE.out.1.lt) (HE.out.2.step B2))
  clear B2 HE l0
  have l0 := load25_run H2.out.1 hr
  go_wp2_with fail
  refine (HB.out _ H2.out.2).mono ?_
  rintro e w3 ⟨rfl, B3⟩
  have H3 := Lib.hid (H2.out.2.step B3)
  clear B3 H2 l0 HA HB
  go_wp2_with fail
  refine (HS.out _).mono ?_
  rintro e w4 ⟨R, rc, rfl, OR, B4⟩
  have H4 := Lib.hid (And.intro (H3.out.step B4) OR.lv)
  clear B4 H3 OR HS
  go_wp2_with fail
  refine (HPA.out _ H4.out.1 R rc H4.out.2).mono ?_
  rintro e w5 ⟨X3, xc, cs, rfl, O5, S5, B5⟩
  have H5 := Lib.hid (And.intro (H4.out.1.step B5) (And.intro (H4.out.2.below B5) (And.intro O5 S5)))
  clear B5 H4 O5 S5 HPA
  go_wp2_with fail
  refine (HPB.out _ H5.out.1 R rc H5.out.2.1).mono ?_
  rintro e w6 ⟨Y3, yc, ds, rfl, O6, S6, B6⟩
  have H6 := Lib.hid (And.intro (H5.out.1.step B6) (And.intro (OW.below' H5.out.2.2.1 B6) (And.intro (H5.out.2.2.2.below B6) (And.intro O6 S6))))
  clear B6 H5 O6 S6 HPB
  obtain ⟨gx, rfl, hgx, hgx2⟩ := H6.out.2.1.some_ (by omega)
  obtain ⟨gy, rfl, hgy, hgy2⟩ := H6.out.2.2.2.1.some_ (by omega)
  have hkI : ((k + 1 : Nat) : Int) = (k : Int) + 1 := by omega
  go_wp2_with fail
  go_loopg [54, 22] (k + 1) (fun f cv iv wr => ∃ j : Nat, j + f = k + 1 ∧ cv = .int .i64 j ∧ (∀ t, t < j → hx t = hy t → ix t = iy t) ∧ Below w6.heap.size w6 wr)
  case atStart => exact ⟨0, by omega, rfl, fun t h => by omega, Below.refl _ _⟩
  case round =>
  obtain ⟨j, hjf, rfl, hno, B0⟩ := hrel
  have M := Lib.hid (And.intro (H6.out.1.step B0) (And.intro (OW.below' H6.out.2.1 B0) (And.intro (H6.out.2.2.1.below B0) (And.intro (OW.below' H6.out.2.2.2.1 B0) (And.intro (H6.out.2.2.2.2.below B0) B0)))))
  have HN := Lib.hid (And.intro hjf hno)
  clear hjf hno B0
  by_cases hj : j < k + 1
  · have hXY := HL.out.2.1 j (by omega)
    have l1 := sc_hash (OW.drew' M.out.2.1) M.out.2.2.1 (j := j) (by rw [HX.out.1]; omega)
    have l2 := sc_hash (OW.drew' M.out.2.2.2.1) M.out.2.2.2.2.1 (j := j) (by rw [HX.out.2]; omega)
    obtain ⟨U, cu, u1, u2, u3, u4, u5⟩ := sc_input (OW.drew' M.out.2.1) M.out.2.2.1 (j := j) (by rw [HX.out.1]; omega)
    obtain ⟨V, cv, v1, v2, v3, v4, v5⟩ := sc_input (OW.drew' M.out.2.2.2.1) M.out.2.2.2.2.1 (j := j) (by rw [HX.out.2]; omega)
    rw [hXY.1] at l1 u1 u2 u3 u4 u5
    rw [hXY.2] at l2 v1 v2 v3 v4 v5
    simp only at l1 u1 u2 u3 u4 u5 l2 v1 v2 v3 v4 v5
    have hls := HL.out.2.2.2.1 j
    have HSH := Lib.hid (HL.out.2.2.1 j (by omega))
    have HJ := Lib.hid (show ∀ t, t < j + 1 → (hx j = hy j → ix j = iy j) → (∀ t, t < j → hx t = hy t → ix t = iy t) → hx t = hy t → ix t = iy t from fun t ht h1 h2 => by
      rcases Nat.lt_or_ge t j with h | h
      · exact h2 t h
      · obtain rfl : t = j := by omega
        exact h1)
    have HQ := Lib.hid (show same → ix j = iy j from fun hs => HL.out.2.2.2.2 hs j)
    have q1 := fun W => run_equalIn_dig W (hx j) (hy j) hls.1 hls.2
    obtain ⟨lu, hlu⟩ : ∃ lu, (ix j).length = lu := ⟨_, rfl⟩
    obtain ⟨lv, hlv⟩ : ∃ lv, (iy j).length = lv := ⟨_, rfl⟩
    rw [hlu] at u1 u2 u3
    rw [hlv] at v1 v2 v3
    have HU := Lib.hid (And.intro hlu (And.intro hlv (And.intro u4 (And.intro v4 (And.intro u5 v5)))))
    clear hXY hls hlu hlv u4 v4 u5 v5
    generalize hx j = dx at *
    generalize hy j = dy at *
    generalize ix j = xi at *
    generalize iy j = yi at *
    by_cases e1 : dx = dy
    · rw [decide_eq_true e1] at q1
      have HEQ := Lib.hid (fun W (b0 : Below wr.heap.size wr W) => bequal_any W xi yi U V lu lv cu cv HU.out.1 HU.out.2.1 HU.out.2.2.1 HU.out.2.2.2.1 (HU.out.2.2.2.2.1.below b0) (HU.out.2.2.2.2.2.below b0))
      have HE1 := Lib.hid e1
      clear e1
      by_cases e2 : xi = yi
      · rw [decide_eq_true e2] at HEQ
        have HE2 := Lib.hid e2
        clear e2
        go_wp2_with fail
        refine wp_region_sego [0, 0, 0, 0, 0, 0, 0, 0, 0, 0, 0, 0, 0, 0, 0, 0, 0, 0, 0, 0, 0, 0, 1, 2, 2] [true] (by kernel_rfl) (by kernel_rfl) (fun _ _ d _ _ h => by cases d <;> exact h) (sego_last fun K0 hK0 => ?_)
        simp only [pickC, ↓reduceIte, Nat.reduceEqDiff, Nat.reduceAdd]
        go_wp2_with fail
        refine hK0.out _ (sego_do fun K2 hK2 => ?_)
        clear hK0 K0
        simp only [pickC, ↓reduceIte, Nat.reduceEqDiff, Nat.reduceAdd]
        go_wp2_with fail
        refine (HEQ.out _ (Below.refl _ _).drew).mono ?_
        rintro e w9 ⟨rfl, rfl⟩
        go_wp2_with fail
        refine hK2.out _ _ (sego_end fun K0 hK0 => ?_)
        clear hK2 K2
        simp only [pickC, ↓reduceIte, Nat.reduceEqDiff, Nat.reduceAdd]
        go_wp2_with fail
        refine hK0.out _ ?_
        clear hK0 K0
        go_wp2_with fail
        go_roundg (gk - 1)
        case measure => have := HN.out.1; omega
        case rel => exact ⟨j + 1, by have := HN.out.1; omega, by go_num, fun t ht => HJ.out t ht (fun _ => HE2.out) HN.out.2, M.out.2.2.2.2.2.drew⟩
      · rw [decide_eq_false e2] at HEQ
        have HE2 := Lib.hid e2
        clear e2
        go_wp2_with fail
        refine wp_region_sego [0, 0, 0, 0, 0, 0, 0, 0, 0, 0, 0, 0, 0, 0, 0, 0, 0, 0, 0, 0, 0, 0, 1, 2, 2] [true] (by kernel_rfl) (by kernel_rfl) (fun _ _ d _ _ h => by cases d <;> exact h) (sego_last fun K0 hK0 => ?_)
        simp only [pickC, ↓reduceIte, Nat.reduceEqDiff, Nat.reduceAdd]
        go_wp2_with fail
        refine hK0.out _ (sego_do fun K2 hK2 => ?_)
        clear hK0 K0
        simp only [pickC, ↓reduceIte, Nat.reduceEqDiff, Nat.reduceAdd]
        go_wp2_with fail
        refine (HEQ.out _ (Below.refl _ _).drew).mono ?_
        rintro e w9 ⟨rfl, rfl⟩
        go_wp2_with fail
        refine hK2.out _ _ (sego_end fun K0 hK0 => ?_)
        clear hK2 K2
        simp only [pickC, ↓reduceIte, Nat.reduceEqDiff, Nat.reduceAdd]
        go_wp2_with fail
        refine hK0.out _ ?_
        clear hK0 K0
        go_wp2_with fail
        refine wp_region_sego [0, 0, 0, 0, 0, 0, 0, 0, 0, 0, 0, 0, 0] [] (by kernel_rfl) (by kernel_rfl) (fun _ _ d _ _ h => by cases d <;> exact h) (sego_end fun K0 hK0 => ?_)
        simp only [pickC, ↓reduceIte, Nat.reduceEqDiff, Nat.reduceAdd]
        go_wp2_with fail
        refine hK0.out _ ?_
        clear hK0 K0
        go_wp2_with fail
        go_ret3
        have hu := HU.out
        exact ⟨⟨fun h => absurd (HQ.out h) HE2.out, fun _ => ⟨xi, yi, U, V, cu, cv, by rw [hu.1, hu.2.1]; rfl, HE2.out, by rw [← HSH.out.1, ← HSH.out.2]; exact HE1.out, hu.2.2.1, hu.2.2.2.1, by omega, by omega, by omega, by omega, (hu.2.2.2.2.1.below (Below.refl _ _).drew).below (Below.refl _ _).drew, (hu.2.2.2.2.2.below (Below.refl _ _).drew).below (Below.refl _ _).drew⟩⟩, M.out.1.b.drew.drew⟩
    · rw [decide_eq_false e1] at q1
      have HE1 := Lib.hid e1
      clear e1
      go_wp2_with fail
      refine wp_region_sego [0, 0, 0, 0, 0, 0, 0, 0, 0, 0, 0, 0, 0, 0, 0, 0, 0, 0, 0, 0, 0, 0, 1, 2, 2] [true] (by kernel_rfl) (by kernel_rfl) (fun _ _ d _ _ h => by cases d <;> exact h) (sego_last fun K0 hK0 => ?_)
      simp only [pickC, ↓reduceIte, Nat.reduceEqDiff, Nat.reduceAdd]
      go_wp2_with fail
      refine hK0.out _ (sego_do fun K2 hK2 => ?_)
      clear hK0 K0
      simp only [pickC, ↓reduceIte, Nat.reduceEqDiff, Nat.reduceAdd]
      go_wp2_with fail
      refine hK2.out _ _ (sego_end fun K0 hK0 => ?_)
      clear hK2 K2
      simp only [pickC, ↓reduceIte, Nat.reduceEqDiff, Nat.reduceAdd]
      go_wp2_with fail
      refine hK0.out _ ?_
      clear hK0 K0
      go_wp2_with fail
      go_roundg (gk - 1)
      case measure => have := HN.out.1; omega
      case rel => exact ⟨j + 1, by have := HN.out.1; omega, by go_num, fun t ht => HJ.out t ht (fun h => absurd h HE1.out) HN.out.2, M.out.2.2.2.2.2.drew⟩
  · obtain rfl : j = k + 1 := by have := HN.out.1; omega
    go_wp2_with fail
    go_ret3
    exact ⟨⟨fun _ => rfl, fun h => absurd (HL.out.1 fun t ht => HN.out.2 t (by omega)) h⟩, M.out.1.b⟩
end Go.Proofs.YtediocpdpghbfaaDoor
