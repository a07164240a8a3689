/- The law of MerkleConsistency: the walk. -/
import Derived.Test.YtediocpdpghbfaaDoorMrsu
import Derived.Test.YtediocpdpghbfaaDoorMvcn
import Derived.Test.YtediocpdpghbfaaDoorMkno
set_option linter.unusedSimpArgs false
set_option linter.unusedVariables false
namespace Go.Proofs.YtediocpdpghbfaaDoor
open Go Go.RowKit

theorem verConL_cons (l : List (List Nat)) (n i : Nat) (hl : l.length = n) (hi : i ≤ n) : verConL (mrootL (l.take i)) (mrootL l) i n (consL l i) = 0 := by
  unfold verConL consL
  rw [hl]
  by_cases h : i = 0 ∨ i = n
  · rw [if_pos h, if_pos h, if_neg (by simp), if_neg]
    rintro (⟨rfl, h'⟩ | ⟨rfl, h'⟩)
    · exact h' (mrootL_zero _ (by simp))
    · exact h' (by rw [List.take_of_length_le (by omega)])
  · obtain ⟨e1, e2⟩ := sub_ok n l i true (mrootL (l.take i)) hl (by omega) hi (fun _ => rfl)
    rw [if_neg h, if_neg h, if_neg (by rw [e1]; simp), e2]
    simp
theorem consL_digs (l : List (List Nat)) (n i : Nat) (hl : l.length = n) (hi : i ≤ n) : Digs (consL l i) ∧ (consL l i).length ≤ n := by
  unfold consL
  by_cases h : i = 0 ∨ i = l.length
  · rw [if_pos h]; exact ⟨Digs.nil, Nat.zero_le _⟩
  · rw [if_neg h]; exact subL_digs n l i true hl (by omega) hi
theorem idx_nat1 (x : Int) (m : Nat) (hx : 0 ≤ x) (h20 : m ≤ 20) : ∃ i : Nat, i ≤ m ∧ wrap64 (x.tmod ((m : Int) + 1)) = i ∧ wrap64 (x % ((m : Int) + 1)) = i := by
  have h1 := Int.emod_nonneg x (show ((m : Int) + 1) ≠ 0 by omega)
  have h2 := Int.emod_lt_of_pos x (show (0 : Int) < (m : Int) + 1 by omega)
  refine ⟨(x % ((m : Int) + 1)).toNat, by omega, ?_, ?_⟩
  · rw [Int.tmod_eq_emod_of_nonneg hx, IntWalk.wrap64_in _ (by omega)]; omega
  · rw [IntWalk.wrap64_in _ (by omega)]; omega
structure PfSt (w w4 W : World) (gt g8 g10 : Nat) (r r2 : List Nat) (P : Option Addr) (pf : List (List Nat)) : Prop where
  t : Blk W gt 32 (u32s TT)
  r : Blk W g8 25 (u8s r)
  r2 : Blk W g10 25 (u8s r2)
  l : LV W P (hcell pf)
  a : At w W
  b : Below w4.heap.size w4 W
theorem PfSt.step {w w4 W W' : World} {gt g8 g10 : Nat} {r r2 : List Nat} {P : Option Addr} {pf : List (List Nat)} (h : PfSt w w4 W gt g8 g10 r r2 P pf) (b : Below W.heap.size W W') : PfSt w w4 W' gt g8 g10 r r2 P pf :=
  ⟨h.t.below b h.t.lt, h.r.below b h.r.lt, h.r2.below b h.r2.lt, h.l.below b, h.a.step b, h.b.trans (b.mono h.b.size)⟩
theorem pw_below {w w' : World} {A : Option Addr} {ps : List (List Nat)} (h : PW w A ps) (hb : Below w.heap.size w w') : PW w' A ps := by
  rcases h with h | ⟨g, off, hA, hg, hc⟩
  · exact .inl h
  · refine .inr ⟨g, off, hA, Nat.lt_of_lt_of_le hg hb.size, fun j hj => ?_⟩
    obtain ⟨Aj, cj, c1, c2, c3, c4, c5⟩ := hc j hj
    exact ⟨Aj, cj, (hb.cell (p := ⟨g, off + j, none⟩) hg).trans c1, c2, c3, c4, c5.below hb⟩
theorem sl41_hG (A : Option Addr) (n cap k : Nat) (hk : k ≤ cap) (w : World) :
    (Instr.sliceAt 41 (.slice A n cap) none (some (.int .i64 (k : Int))) none).run Tryd.prog w = .ok (.slice A k cap) w := by
  have hs := size22
  rw [run_sliceAt_slice w 41 _ _ _ _ (by rw [elem41]; exact Tryd.underlying41), run_slice_h w 41 _ n cap (by rw [elem41]; exact Tryd.underlying41) .i64 k (by omega) (by omega)]
  cases hq : Tryd.prog.info? 22 with
  | none => simp [hq] at hs
  | some i =>
    have hi : i.size = 1 := by simpa [hq] using hs
    cases A <;> simp [elem41, sizeOf, typeInfo, hq, hi, sliced, Addr.add]
attribute [local go_sem ↓] ld25 st25 ld32 st32 ld24 st24
set_option maxRecDepth 100000 in
set_option maxHeartbeats 8000000 in
theorem law_merkleConsistency (w : World) (hT : Tabs w) (z : Int) (hz1 : -9223372036854775808 ≤ z) (hz2 : z ≤ 9223372036854775807) (ps : List (List Nat)) (A : Option Addr) (ca n : Nat) (ln : ps.length = n) (ha : n ≤ ca) (hca : ca ≤ 9223372036854775807) (hp : PW w A ps) :
    Calls Tryd.prog 15 #[.slice A n ca, .int .i64 z] w fun e w' => e = .returned (.bool true) ∧ Below w.heap.size w w' := by
  have H0 := Lib.hid (And.intro hT (And.intro ln hp))
  clear hT ln hp
  go_enter Tryd.func15, Tryd.ntmps15
  go_wp2_with fail
  refine (mknown_any _ H0.out.1).mono ?_
  rintro e w1 ⟨rfl, B1⟩
  have A1 := Lib.hid (At.mk H0.out.1 B1)
  clear B1
  go_wp2_with fail
  refine (rmake_any _).mono ?_
  rintro e w2 ⟨rfl, B2⟩
  have A2 := Lib.hid (A1.out.step B2)
  clear B2 A1
  go_wp2_with (refine wpList_fillM rfl 32 (.tmp 5) (.tmp 14) rfl (u32s TT) rfl rfl (size32 _ TT_length) (by rw [u32s_size, TT_length]; rfl) (u32s_one _) ?_; intro w3 E3 B3; have A3 := Lib.hid (And.intro E3 (A2.out.step B3)); clear E3 B3)
  generalize w2.heap.size = gt at *
  clear A2
  refine (few_any w3 ps A ca n H0.out.2.1 ha hca (pw_below H0.out.2.2 A3.out.2.b)).mono ?_
  rintro e w4 ⟨A', c', vs, rfl, O4, V4, B4⟩
  have hm20 : (fewL ps).length ≤ 20 := by rw [fewL_length]; omega
  have hcc := O4.cap'
  have A4 := Lib.hid (And.intro (A3.out.1.below B4 A3.out.1.lt) (And.intro (pl_of O4.lv V4) (A3.out.2.step B4)))
  clear O4 V4 B4 A3
  generalize fewL ps = q at *
  obtain ⟨m, hm⟩ : ∃ m, q.length = m := ⟨_, rfl⟩
  rw [hm] at hm20 hcc ⊢
  have HM := Lib.hid hm
  clear hm
  have hc'' : c' ≤ 9223372036854775807 := by have := hcc.2; unfold maxLen at this; omega
  by_cases hbad : z < 0 ∨ (m : Int) < z
  · have HPB := Lib.hid (fun W => mpcons_bad m z W A' c' (by omega) hbad)
    have ways : z < 0 ∨ (¬ z < 0 ∧ (m : Int) < z) := by omega
    clear hbad
    have hi0 : ∃ i : Nat, i ≤ m ∧ (z < 0 → wrap64 ((IntKind.u64.wrap z).tmod ((m : Int) + 1)) = i) ∧ (¬ z < 0 → wrap64 (z % ((m : Int) + 1)) = i) := by
      by_cases h : z < 0
      · obtain ⟨i, hi, e1, _⟩ := idx_nat1 (IntKind.u64.wrap z) m (wrap_u64_nonneg _) hm20
        exact ⟨i, hi, fun _ => e1, fun h' => absurd h h'⟩
      · obtain ⟨i, hi, _, e2⟩ := idx_nat1 z m (by omega) hm20
        exact ⟨i, hi, fun h' => absurd h' h, fun _ => e2⟩
    obtain ⟨i, hi, e1, e2⟩ := hi0
    have HI := Lib.hid (And.intro e1 e2)
    clear e1 e2
    rcases ways with t0 | ⟨t0, t1⟩
    all_goals
      go_wp2_with fail
      refine (HPB.out _).mono ?_
      rintro e w5 ⟨rfl, rfl⟩
      go_wp2_with fail
      first | rw [HI.out.1 t0] | rw [HI.out.2 (by omega)]
      clear HPB HI
      refine (mpcons_any m q i w4 A' c' HM.out (by omega) (by omega) hc'' hi A4.out.2.2.t A4.out.2.1).mono ?_
      rintro e w5 ⟨P, pc, rfl, O5, B5⟩
      have hpd := consL_digs q m i HM.out hi
      have hv := verConL_cons q m i HM.out hi
      have HRP := Lib.hid (fun W (s : PL W A' q) => rcons_any m q i W A' c' HM.out hi (by omega) (by omega) hc'' s)
      have hr32 := mrootL_length (q.take i)
      have hrB := mrootL_bytes (q.take i)
      have hr232 := mrootL_length q
      have HRT := Lib.hid (fun W (s : At w W) (p : PL W A' q) => mroot_any i (q.take i) W A' c' (by rw [List.length_take, HM.out]; omega) (by omega) (by omega) hc'' s.t (p.take i))
      have HRT2 := Lib.hid (fun W (s : At w W) (p : PL W A' q) => mroot_any m q W A' c' HM.out (by omega) (by omega) hc'' s.t p)
      have HB := Lib.hid (And.intro (A4.out.1.below B5 A4.out.1.lt) (And.intro (OW.lv O5.2.2) (And.intro (A4.out.2.2.step B5) (And.intro B5 (And.intro hpd.1 (And.intro hv (OW.cap' O5.2.2)))))))
      have hpl := hpd.2
      have HA := Lib.hid A4.out.2.1
      have sl := fun W => sl41_hG A' m c' i (by omega) W
      clear O5 B5 hpd hv A4
      generalize consL q i = pf at *
      generalize mrootL q = r2 at *
      generalize mrootL (q.take i) = r at *
      obtain ⟨k, hk⟩ : ∃ k, pf.length = k := ⟨_, rfl⟩
      rw [hk] at hpl HRP HB ⊢
      have HK := Lib.hid hk
      clear hk
      go_wp2_with fail
      refine (HRT.out _ HB.out.2.2.1 (HA.out.below HB.out.2.2.2.1)).mono ?_
      rintro e w6 ⟨rfl, B6⟩
      go_wp2_with (refine wpList_fillM rfl 25 (.tmp 8) (.tmp 57) rfl (u8s r) rfl rfl (size25 _ hr32) (by rw [u8s_size, hr32]; rfl) (u8s_one _) ?_; intro w7 E7 B7; have H7 := Lib.hid (And.intro E7 (B6.trans (B7.mono B6.size))); clear E7 B7 B6)
      have HB7 := Lib.hid (And.intro (HB.out.2.2.1.step H7.out.2) (HB.out.2.2.2.1.trans (H7.out.2.mono HB.out.2.2.2.1.size)))
      refine (HRT2.out _ HB7.out.1 (HA.out.below HB7.out.2)).mono ?_
      rintro e w8 ⟨rfl, B8⟩
      go_wp2_with (refine wpList_fillM rfl 25 (.tmp 10) (.tmp 62) rfl (u8s r2) rfl rfl (size25 _ hr232) (by rw [u8s_size, hr232]; rfl) (u8s_one _) ?_; intro w9 E9 B9; have H9 := Lib.hid (And.intro E9 (B8.trans (B9.mono B8.size))); clear E9 B9 B8)
      have M := Lib.hid (PfSt.mk (w := w) (w4 := w4) ((HB.out.1.below H7.out.2 HB.out.1.lt).below H9.out.2 (HB.out.1.below H7.out.2 HB.out.1.lt).lt) (H7.out.1.below H9.out.2 H7.out.1.lt) H9.out.1 ((HB.out.2.1.below H7.out.2).below H9.out.2) (HB7.out.1.step H9.out.2) (HB7.out.2.trans (H9.out.2.mono HB7.out.2.size)))
      clear H7 H9 HB7 HRT HRT2
      generalize w6.heap.size = g8 at *
      generalize w8.heap.size = g10 at *
      have M := Lib.hid (M.out.step (Below.refl _ _).drew)
      have l1 := load32_run M.out.t
      refine wp_region_pv (.still [true, false, false, false, false, false, false, false, false, false, false, false, false, false, false, false, false, false, false, false, false, false, false, false, false, false, false, false, false, false] (.look [false, true, true, true, true, true, true, true, true, true, true, true, false, true, true, true, false, false, false, false, false, false, false, false, false, false, false, false, false, false] (.act [false, false, false, false, false, false, false, false, false, false, false, false, true, false, false, false, false, false, false, false, false, false, false, false, false, false, false, false, false, false] (.last [false, false, false, false, false, false, false, false, false, false, false, false, false, false, false, false, true, false, false, false, false, false, false, false, false, false, false, false, false, false] (.last [false, false, false, false, false, false, false, false, false, false, false, false, false, false, false, false, false, true, false, false, false, false, false, false, false, false, false, false, false, false] (.still [false, false, false, false, false, false, false, false, false, false, false, false, false, false, false, false, false, false, true, true, false, false, true, true, false, true, false, false, false, false] (.look [false, false, false, false, false, false, false, false, false, false, false, false, false, false, false, false, false, false, false, false, true, true, false, false, true, false, false, false, false, false] (.last [false, false, false, false, false, false, false, false, false, false, false, false, false, false, false, false, false, false, false, false, false, false, false, false, false, false, true, false, false, false] (.look [false, false, false, false, false, false, false, false, false, false, false, false, false, false, false, false, false, false, false, false, false, false, false, false, false, false, false, true, true, true] .stop))))))))) (by kernel_rfl) (by kernel_rfl) (fun _ _ d _ _ h => by cases d <;> exact h) ?_
      generalize w9.drew = V at *
      refine sv_still fun K0 hK0 => ?_
      simp only [pickM]
      go_wp2_with fail
      refine hK0.out _ ?_
      clear hK0 K0
      refine sv_look fun K0 hK0 => ?_
      simp only [pickM]
      go_wp2_with fail
      refine hK0.out _ ?_
      clear hK0 K0
      refine sv_act fun K2 hK2 => ?_
      simp only [pickM]
      go_wp2_with fail
      refine (to_any _ pf P k pc HK.out HB.out.2.2.2.2.1 (by omega) M.out.l).mono ?_
      rintro e x1 ⟨TA, tc, rfl, OT, hBelow⟩
      have M := Lib.hid (M.out.step hBelow)
      have HTL := Lib.hid OT.lv
      clear OT
      go_wp2_with fail
      have hsx1 := Lib.hid (show Sof (some V) x1 from hBelow)
      refine hK2.out _ _ hsx1.out ?_
      clear hK2 K2 hBelow
      refine sv_last fun K2 hK2 => ?_
      simp only [pickM]
      go_wp2_with fail
      refine (HRP.out _ (HA.out.below M.out.b)).mono ?_
      rintro e x2 ⟨RA, rc, rfl, OR, hBelow⟩
      have M := Lib.hid (M.out.step hBelow)
      have HTL := Lib.hid (HTL.out.below hBelow)
      have HRL := Lib.hid OR.lv
      clear OR
      go_wp2_with fail
      refine hK2.out _ _ ?_
      clear hK2 K2 hBelow
      refine sv_last fun K2 hK2 => ?_
      simp only [pickM]
      go_wp2_with fail
      have hs := Lib.hid (same_any x2 pf pf TA RA k k tc rc HK.out HK.out HB.out.2.2.2.2.1 HB.out.2.2.2.2.1 (by omega) (by omega) HTL.out HRL.out)
      rw [decide_eq_true (rfl : pf = pf)] at hs
      refine hs.out.mono ?_
      rintro e x3 ⟨rfl, hBelow⟩
      have M := Lib.hid (M.out.step hBelow)
      clear HTL HRL hs
      have l2 := load25_run M.out.r hr32
      have l3 := load25_run M.out.r2 hr232
      go_wp2_with fail
      refine hK2.out _ _ ?_
      clear hK2 K2 hBelow
      refine sv_still fun K0 hK0 => ?_
      simp only [pickM]
      go_wp2_with fail
      refine hK0.out _ ?_
      clear hK0 K0
      refine sv_look fun K0 hK0 => ?_
      simp only [pickM]
      go_wp2_with fail
      refine hK0.out _ ?_
      clear hK0 K0
      refine sv_last fun K2 hK2 => ?_
      simp only [pickM]
      go_wp2_with fail
      have hs := Lib.hid (mvcons_any x3 M.out.a.t r r2 hr32 hr232 hrB i m (by omega) hi pf P k pc HK.out (by omega) HB.out.2.2.2.2.2.2.1 (by have := HB.out.2.2.2.2.2.2.2; unfold maxLen at this; omega) HB.out.2.2.2.2.1 M.out.l)
      rw [HB.out.2.2.2.2.2.1] at hs
      refine hs.out.mono ?_
      rintro e x4 ⟨rfl, hBelow⟩
      have M := Lib.hid (M.out.step hBelow)
      clear hs l2 l3
      go_wp2_with fail
      refine hK2.out _ _ ?_
      clear hK2 K2 hBelow
      refine sv_look fun K0 hK0 => ?_
      simp only [pickM]
      go_wp2_with fail
      refine hK0.out _ ?_
      clear hK0 K0
      change Exit.then _ _ _ _ _
      go_wp2_with fail
      go_ret
      exact ⟨rfl, M.out.a.b⟩
  · obtain ⟨i, rfl⟩ : ∃ i : Nat, z = i := ⟨z.toNat, by omega⟩
    have hi : i ≤ m := by omega
    have t0 : ¬ (i : Int) < 0 := by omega
    have t1 : ¬ (m : Int) < (i : Int) := by omega
    clear hbad
    go_wp2_with fail
    refine (mpcons_any m q i w4 A' c' HM.out (by omega) (by omega) hc'' hi A4.out.2.2.t A4.out.2.1).mono ?_
    rintro e w5 ⟨P, pc, rfl, O5, B5⟩
    have hpd := consL_digs q m i HM.out hi
    have hv := verConL_cons q m i HM.out hi
    have HRP := Lib.hid (fun W (s : PL W A' q) => rcons_any m q i W A' c' HM.out hi (by omega) (by omega) hc'' s)
    have hr32 := mrootL_length (q.take i)
    have hrB := mrootL_bytes (q.take i)
    have hr232 := mrootL_length q
    have HRT := Lib.hid (fun W (s : At w W) (p : PL W A' q) => mroot_any i (q.take i) W A' c' (by rw [List.length_take, HM.out]; omega) (by omega) (by omega) hc'' s.t (p.take i))
    have HRT2 := Lib.hid (fun W (s : At w W) (p : PL W A' q) => mroot_any m q W A' c' HM.out (by omega) (by omega) hc'' s.t p)
    have HB := Lib.hid (And.intro (A4.out.1.below B5 A4.out.1.lt) (And.intro (OW.lv O5.2.2) (And.intro (A4.out.2.2.step B5) (And.intro B5 (And.intro hpd.1 (And.intro hv (OW.cap' O5.2.2)))))))
    have hpl := hpd.2
    have HA := Lib.hid A4.out.2.1
    have sl := fun W => sl41_hG A' m c' i (by omega) W
    clear O5 B5 hpd hv A4
    generalize consL q i = pf at *
    generalize mrootL q = r2 at *
    generalize mrootL (q.take i) = r at *
    obtain ⟨k, hk⟩ : ∃ k, pf.length = k := ⟨_, rfl⟩
    rw [hk] at hpl HRP HB ⊢
    have HK := Lib.hid hk
    clear hk
    go_wp2_with fail
    refine (HRT.out _ HB.out.2.2.1 (HA.out.below HB.out.2.2.2.1)).mono ?_
    rintro e w6 ⟨rfl, B6⟩
    go_wp2_with (refine wpList_fillM rfl 25 (.tmp 8) (.tmp 57) rfl (u8s r) rfl rfl (size25 _ hr32) (by rw [u8s_size, hr32]; rfl) (u8s_one _) ?_; intro w7 E7 B7; have H7 := Lib.hid (And.intro E7 (B6.trans (B7.mono B6.size))); clear E7 B7 B6)
    have HB7 := Lib.hid (And.intro (HB.out.2.2.1.step H7.out.2) (HB.out.2.2.2.1.trans (H7.out.2.mono HB.out.2.2.2.1.size)))
    refine (HRT2.out _ HB7.out.1 (HA.out.below HB7.out.2)).mono ?_
    rintro e w8 ⟨rfl, B8⟩
    go_wp2_with (refine wpList_fillM rfl 25 (.tmp 10) (.tmp 62) rfl (u8s r2) rfl rfl (size25 _ hr232) (by rw [u8s_size, hr232]; rfl) (u8s_one _) ?_; intro w9 E9 B9; have H9 := Lib.hid (And.intro E9 (B8.trans (B9.mono B8.size))); clear E9 B9 B8)
    have M := Lib.hid (PfSt.mk (w := w) (w4 := w4) ((HB.out.1.below H7.out.2 HB.out.1.lt).below H9.out.2 (HB.out.1.below H7.out.2 HB.out.1.lt).lt) (H7.out.1.below H9.out.2 H7.out.1.lt) H9.out.1 ((HB.out.2.1.below H7.out.2).below H9.out.2) (HB7.out.1.step H9.out.2) (HB7.out.2.trans (H9.out.2.mono HB7.out.2.size)))
    clear H7 H9 HB7 HRT HRT2
    generalize w6.heap.size = g8 at *
    generalize w8.heap.size = g10 at *
    have M := Lib.hid (M.out.step (Below.refl _ _).drew)
    have l1 := load32_run M.out.t
    refine wp_region_pv (.still [true, false, false, false, false, false, false, false, false, false, false, false, false, false, false, false, false, false, false, false, false, false, false, false, false, false, false, false, false, false] (.look [false, true, true, true, true, true, true, true, true, true, true, true, false, true, true, true, false, false, false, false, false, false, false, false, false, false, false, false, false, false] (.act [false, false, false, false, false, false, false, false, false, false, false, false, true, false, false, false, false, false, false, false, false, false, false, false, false, false, false, false, false, false] (.last [false, false, false, false, false, false, false, false, false, false, false, false, false, false, false, false, true, false, false, false, false, false, false, false, false, false, false, false, false, false] (.last [false, false, false, false, false, false, false, false, false, false, false, false, false, false, false, false, false, true, false, false, false, false, false, false, false, false, false, false, false, false] (.still [false, false, false, false, false, false, false, false, false, false, false, false, false, false, false, false, false, false, true, true, false, false, true, true, false, true, false, false, false, false] (.look [false, false, false, false, false, false, false, false, false, false, false, false, false, false, false, false, false, false, false, false, true, true, false, false, true, false, false, false, false, false] (.last [false, false, false, false, false, false, false, false, false, false, false, false, false, false, false, false, false, false, false, false, false, false, false, false, false, false, true, false, false, false] (.look [false, false, false, false, false, false, false, false, false, false, false, false, false, false, false, false, false, false, false, false, false, false, false, false, false, false, false, true, true, true] .stop))))))))) (by kernel_rfl) (by kernel_rfl) (fun _ _ d _ _ h => by cases d <;> exact h) ?_
    generalize w9.drew = V at *
    refine sv_still fun K0 hK0 => ?_
    simp only [pickM]
    go_wp2_with fail
    refine hK0.out _ ?_
    clear hK0 K0
    refine sv_look fun K0 hK0 => ?_
    simp only [pickM]
    go_wp2_with fail
    refine hK0.out _ ?_
    clear hK0 K0
    refine sv_act fun K2 hK2 => ?_
    simp only [pickM]
    go_wp2_with fail
    refine (to_any _ pf P k pc HK.out HB.out.2.2.2.2.1 (by omega) M.out.l).mono ?_
    rintro e x1 ⟨TA, tc, rfl, OT, hBelow⟩
    have M := Lib.hid (M.out.step hBelow)
    have HTL := Lib.hid OT.lv
    clear OT
    go_wp2_with fail
    have hsx1 := Lib.hid (show Sof (some V) x1 from hBelow)
    refine hK2.out _ _ hsx1.out ?_
    clear hK2 K2 hBelow
    refine sv_last fun K2 hK2 => ?_
    simp only [pickM]
    go_wp2_with fail
    refine (HRP.out _ (HA.out.below M.out.b)).mono ?_
    rintro e x2 ⟨RA, rc, rfl, OR, hBelow⟩
    have M := Lib.hid (M.out.step hBelow)
    have HTL := Lib.hid (HTL.out.below hBelow)
    have HRL := Lib.hid OR.lv
    clear OR
    go_wp2_with fail
    refine hK2.out _ _ ?_
    clear hK2 K2 hBelow
    refine sv_last fun K2 hK2 => ?_
    simp only [pickM]
    go_wp2_with fail
    have hs := Lib.hid (same_any x2 pf pf TA RA k k tc rc HK.out HK.out HB.out.2.2.2.2.1 HB.out.2.2.2.2.1 (by omega) (by omega) HTL.out HRL.out)
    rw [decide_eq_true (rfl : pf = pf)] at hs
    refine hs.out.mono ?_
    rintro e x3 ⟨rfl, hBelow⟩
    have M := Lib.hid (M.out.step hBelow)
    clear HTL HRL hs
    have l2 := load25_run M.out.r hr32
    have l3 := load25_run M.out.r2 hr232
    go_wp2_with fail
    refine hK2.out _ _ ?_
    clear hK2 K2 hBelow
    refine sv_still fun K0 hK0 => ?_
    simp only [pickM]
    go_wp2_with fail
    refine hK0.out _ ?_
    clear hK0 K0
    refine sv_look fun K0 hK0 => ?_
    simp only [pickM]
    go_wp2_with fail
    refine hK0.out _ ?_
    clear hK0 K0
    refine sv_last fun K2 hK2 => ?_
    simp only [pickM]
    go_wp2_with fail
    have hs := Lib.hid (mvcons_any x3 M.out.a.t r r2 hr32 hr232 hrB i m (by omega) hi pf P k pc HK.out (by omega) HB.out.2.2.2.2.2.2.1 (by have := HB.out.2.2.2.2.2.2.2; unfold maxLen at this; omega) HB.out.2.2.2.2.1 M.out.l)
    rw [HB.out.2.2.2.2.2.1] at hs
    refine hs.out.mono ?_
    rintro e x4 ⟨rfl, hBelow⟩
    have M := Lib.hid (M.out.step hBelow)
    clear hs l2 l3
    go_wp2_with fail
    refine hK2.out _ _ ?_
    clear hK2 K2 hBelow
    refine sv_look fun K0 hK0 => ?_
    simp only [pickM]
    go_wp2_with fail
    refine hK0.out _ ?_
    clear hK0 K0
    change Exit.then _ _ _ _ _
    go_wp2_with fail
    go_ret
    exact ⟨rfl, M.out.a.b⟩
end Go.Proofs.YtediocpdpghbfaaDoor
