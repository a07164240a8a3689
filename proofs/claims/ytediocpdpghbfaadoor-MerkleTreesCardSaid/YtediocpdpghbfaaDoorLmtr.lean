/- The law of MerkleTrees: the walk. -/
import Derived.Test.YtediocpdpghbfaaDoorMequ
import Derived.Test.YtediocpdpghbfaaDoorMkno
import Derived.Deep.DeepCutAuto
set_option linter.unusedSimpArgs false
set_option linter.unusedVariables false
namespace Go.Proofs.YtediocpdpghbfaaDoor
open Go Go.RowKit

theorem PV.append {w : World} {vs vs2 : List Value} {ps ps2 : List (List Nat)} (h : PV w vs ps) (k : PV w vs2 ps2) : PV w (vs ++ vs2) (ps ++ ps2) := by
  refine ⟨by rw [List.length_append, List.length_append, h.1, k.1], fun j hj => ?_⟩
  rcases Nat.lt_or_ge j ps.length with hlt | hge
  · obtain ⟨A, c, c1, c2⟩ := h.2 j hlt
    have e : (ps ++ ps2).getD j [] = ps.getD j [] := by simp [List.getD_eq_getElem?_getD, List.getElem?_append_left hlt]
    rw [e]
    exact ⟨A, c, by rw [List.getElem?_append_left (by rw [h.1]; exact hlt)]; exact c1, c2⟩
  · obtain ⟨A, c, c1, c2⟩ := k.2 (j - ps.length) (by rw [List.length_append] at hj; omega)
    have e : (ps ++ ps2).getD j [] = ps2.getD (j - ps.length) [] := by simp [List.getD_eq_getElem?_getD, List.getElem?_append_right hge]
    rw [e]
    exact ⟨A, c, by rw [List.getElem?_append_right (by rw [h.1]; exact hge), h.1]; exact c1, c2⟩
/-- trees at ga and go, beside what lay before -/
structure TrSt (w w5 W : World) (ga go na no : Nat) (ha ho la lo : List (List Nat)) : Prop where
  a : Blk W ga 111 (treeC na ha)
  o : Blk W go 111 (treeC no ho)
  ia : TInv na ha la
  io : TInv no ho lo
  b : Below w5.heap.size w5 W
  at_ : At w W
theorem TrSt.step {w w5 W W' : World} {ga go na no : Nat} {ha ho la lo : List (List Nat)} (h : TrSt w w5 W ga go na no ha ho la lo) (b : Below W.heap.size W W') : TrSt w w5 W' ga go na no ha ho la lo :=
  ⟨h.a.below b h.a.lt, h.o.below b h.o.lt, h.ia, h.io, h.b.trans (b.mono h.b.size), h.at_.step b⟩
/-- one more leaf in the tree at ga: the contract of Append, with what becomes of the state -/
theorem append_tr {w w5 W : World} {ga go na no : Nat} {ha ho la lo : List (List Nat)} (h : TrSt w w5 W ga go na no ha ho la lo) (hna : na < 65536) (h5 : w5.heap.size ≤ ga) (hw5 : w.heap.size ≤ w5.heap.size) (hne : ga ≠ go)
    (b : List Nat) (A : Option Addr) (m cap : Nat) (lb : b.length = m) (hcap : m ≤ cap) (hm : m ≤ 1000000) (hB : Bytes b) (hR : RW W A cap b) :
    Calls Tryd.prog 48 #[.pointer (some ⟨ga, 0, none⟩), .slice A m cap] W fun e w' => e = .returned (.int .i64 0) ∧ ∃ ha', TrSt w w5 w' ga go (na + 1) no ha' ho (la ++ [b]) lo := by
  obtain ⟨k, hk16, hk1, hk0⟩ := ones_ex na hna
  refine (mappend_any W h.at_.t ga na k ha hna hk16 hk1 hk0 h.ia.hl h.ia.hd h.a b A m cap lb hcap hm hB hR).mono ?_
  rintro e w' ⟨rfl, E, G⟩
  exact ⟨rfl, _, E, h.o.grown G (by intro e; injection e with e; omega), tinv_append na k ha la b h.ia hk16 hk1 hk0, h.io, h.b.grown G h.b.size (fun k hk => by injection hk with hk; omega), h.at_.grown G (by omega)⟩
structure Tr3 (w w5 W : World) (ga go gc na no : Nat) (ha ho la lo : List (List Nat)) : Prop where
  s : TrSt w w5 W ga go na no ha ho la lo
  c : Blk W gc 111 (treeC na ha)
theorem Tr3.step {w w5 W W' : World} {ga go gc na no : Nat} {ha ho la lo : List (List Nat)} (h : Tr3 w w5 W ga go gc na no ha ho la lo) (b : Below W.heap.size W W') : Tr3 w w5 W' ga go gc na no ha ho la lo := ⟨h.s.step b, h.c.below b h.c.lt⟩
theorem OW.none_cap {w : World} {base E sz n cap : Nat} {A : Option Addr} {xs : List Value} (h : OW w base E sz A n cap xs) (e : A = none) : cap = 0 := by
  subst e
  rcases h.2 with ⟨hv, _⟩ | ⟨g, cap', cur, hv, _⟩
  · injection hv
  · cases hv
theorem TrSt.swap {w w5 W : World} {ga go na no : Nat} {ha ho la lo : List (List Nat)} (h : TrSt w w5 W ga go na no ha ho la lo) : TrSt w w5 W go ga no na ho ha lo la := ⟨h.o, h.a, h.io, h.ia, h.b, h.at_⟩
theorem pw_below {w w' : World} {A : Option Addr} {ps : List (List Nat)} (h : PW w A ps) (hb : Below w.heap.size w w') : PW w' A ps := by
  rcases h with h | ⟨g, off, hA, hg, hc⟩
  · exact .inl h
  · refine .inr ⟨g, off, hA, Nat.lt_of_lt_of_le hg hb.size, fun j hj => ?_⟩
    obtain ⟨Aj, cj, c1, c2, c3, c4, c5⟩ := hc j hj
    exact ⟨Aj, cj, (hb.cell (p := ⟨g, off + j, none⟩) hg).trans c1, c2, c3, c4, c5.below hb⟩
attribute [local go_sem ↓] ld25 st25 ld32 st32 bz25_rule
attribute [local go_sem] bz25_run
set_option maxRecDepth 100000 in
set_option maxHeartbeats 8000000 in
theorem law_merkleTrees (w : World) (hT : Tabs w) (ps ps2 : List (List Nat)) (A A2 : Option Addr) (ca ca2 n n2 : Nat) (ln : ps.length = n) (ha : n ≤ ca) (hca : ca ≤ 9223372036854775807) (hp : PW w A ps) (ln2 : ps2.length = n2) (ha2 : n2 ≤ ca2) (hca2 : ca2 ≤ 9223372036854775807) (hp2 : PW w A2 ps2) :
    Calls Tryd.prog 17 #[.slice A n ca, .slice A2 n2 ca2] w fun e w' => e = .returned (.bool true) ∧ Below w.heap.size w w' := by
  have H0 := Lib.hid (And.intro hT (And.intro ln (And.intro hp (And.intro ln2 hp2))))
  clear hT ln hp ln2 hp2
  go_enter Tryd.func17, Tryd.ntmps17
  go_wp2_with fail
  refine (mknown_any _ H0.out.1).mono ?_
  rintro e w1 ⟨rfl, B1⟩
  have A1 := Lib.hid (At.mk H0.out.1 B1)
  clear B1
  go_wp2_with fail
  refine (rmake_any _).mono ?_
  rintro e w2 ⟨rfl, B2⟩
  have X2 := Lib.hid (A1.out.step B2)
  clear B2 A1
  go_wp2_with (refine wpList_fillM rfl 32 (.tmp 5) (.tmp 16) rfl (u32s TT) rfl rfl (size32 _ TT_length) (by rw [u32s_size, TT_length]; rfl) (u32s_one _) ?_; intro w3 E3 B3; have A3 := Lib.hid (And.intro E3 (X2.out.step B3)); clear E3 B3)
  generalize w2.heap.size = gt at *
  clear X2
  refine (few_any w3 ps A ca n H0.out.2.1 ha hca (pw_below H0.out.2.2.1 A3.out.2.b)).mono ?_
  rintro e w4 ⟨P, pc, vs, rfl, O4, V4, B4⟩
  have hm20 : (fewL ps).length ≤ 20 := by rw [fewL_length]; omega
  have hcc := O4.cap'
  have HP0 := Lib.hid (fun e : P = none => O4.none_cap e)
  have A4 := Lib.hid (And.intro (A3.out.1.below B4 A3.out.1.lt) (And.intro O4.lv (And.intro V4 (A3.out.2.step B4))))
  clear O4 V4 B4 A3
  generalize fewL ps = q at *
  obtain ⟨m, hm⟩ : ∃ m, q.length = m := ⟨_, rfl⟩
  rw [hm] at hm20 hcc ⊢
  have HM := Lib.hid hm
  clear hm
  go_wp2_with fail
  refine (few_any w4 ps2 A2 ca2 n2 H0.out.2.2.2.1 ha2 hca2 (pw_below H0.out.2.2.2.2 A4.out.2.2.2.b)).mono ?_
  rintro e w5 ⟨P2, pc2, vs2, rfl, O5, V5, B5⟩
  have hm202 : (fewL ps2).length ≤ 20 := by rw [fewL_length]; omega
  have hcc2 := O5.cap'
  have HP2 := Lib.hid (fun e : P2 = none => O5.none_cap e)
  have A5 := Lib.hid (And.intro (A4.out.1.below B5 A4.out.1.lt) (And.intro (A4.out.2.1.below B5) (And.intro (A4.out.2.2.1.below B5) (And.intro O5.lv (And.intro V5 (A4.out.2.2.2.step B5))))))
  clear O5 V5 B5 A4
  generalize fewL ps2 = q2 at *
  obtain ⟨m2, hm2⟩ : ∃ m2, q2.length = m2 := ⟨_, rfl⟩
  rw [hm2] at hm202 hcc2 ⊢
  have HM2 := Lib.hid hm2
  clear hm2
  go_wp2_with fail
  refine (mnew_any w5).mono ?_
  rintro e w6 ⟨rfl, E6, B6⟩
  go_wp2_with fail
  refine (mnew_any w6).mono ?_
  rintro e w7 ⟨rfl, E7, B7⟩
  have hg56 : w5.heap.size < w6.heap.size := E6.lt
  have hw5 : w.heap.size ≤ w5.heap.size := A5.out.2.2.2.2.2.le
  have M := Lib.hid (TrSt.mk (w := w) (w5 := w5) (E6.below B7 E6.lt) E7 tinv_zero tinv_zero (B6.trans (B7.mono B6.size)) ((A5.out.2.2.2.2.2.step B6).step B7))
  clear E6 B6 E7 B7
  obtain ⟨ga, hga⟩ : ∃ ga, w5.heap.size = ga := ⟨_, rfl⟩
  rw [hga] at hg56 hw5 M ⊢
  have HGA := Lib.hid hga
  clear hga
  generalize w6.heap.size = go at *
  go_wp2_with fail
  go_loopg [8] m (fun f iv wr => ∃ (i : Nat) (hs : List (List Nat)), i + f = m ∧ iv = .int .i64 i ∧ TrSt w w5 wr ga go i 0 hs zt (q.take i) [])
  case atStart => exact ⟨0, zt, by omega, rfl, M.out⟩
  case round =>
    clear M
    obtain ⟨i, hs, hif, rfl, M⟩ := hrel
    by_cases hi : i < m
    · rcases pl_of A5.out.2.1 A5.out.2.2.1 with hnil | ⟨pg, po, rfl, hpg, hc⟩
      · have := HM.out; rw [hnil] at this; simp at this; omega
      obtain ⟨Aj, cj, c1, c2, c3, c4, c5⟩ := hc i (by rw [HM.out]; exact hi)
      obtain ⟨x, hx⟩ : ∃ x, (q.getD i []).length = x := ⟨_, rfl⟩
      rw [hx] at c1 c2 c3
      have d1 := (M.b.cell (p := ⟨pg, po + i, none⟩) hpg).trans c1
      have hap := append_tr M (by omega) (by rw [HGA.out]; exact Nat.le_refl _) (by rw [HGA.out]; exact hw5) (by omega) (q.getD i []) Aj x cj hx c2 (by omega) c4 (c5.below M.b)
      have hqt : q.take i ++ [q.getD i []] = q.take (i + 1) := by
        rw [List.take_succ_eq_append_getElem (by rw [HM.out]; exact hi)]; simp [List.getD_eq_getElem?_getD, List.getElem?_eq_getElem (show i < q.length by rw [HM.out]; exact hi)]
      rw [hqt] at hap
      have HA := Lib.hid (And.intro hap hif)
      clear hap hqt hc c1 c2 c3 c4 c5 hx hif M
      go_wp2_with fail
      refine HA.out.1.mono ?_
      rintro e w8 ⟨rfl, hs', M8⟩
      have H8 := Lib.hid M8
      clear M8 d1
      go_wp2_with fail
      go_roundg (gk - 1)
      case measure => have := HA.out.2; omega
      case rel =>
        have hif := HA.out.2
        exact ⟨i + 1, hs', by omega, by go_num, H8.out⟩
    · obtain rfl : m = i := by omega
      rw [List.take_of_length_le (by rw [HM.out]; omega)] at M
      have Z := Lib.hid M
      clear hif hi M
      obtain ⟨wo, rfl⟩ : ∃ wo : World, wo = wr := ⟨_, rfl⟩
      go_wp2_with fail
      go_loopg [9] m2 (fun f iv wr => ∃ (i : Nat) (ho : List (List Nat)), i + f = m2 ∧ iv = .int .i64 i ∧ TrSt w w5 wr ga go m i hs ho q (q2.take i))
      case atStart => exact ⟨0, zt, by omega, rfl, Z.out⟩
      case round =>
        clear Z
        obtain ⟨i, ho, hif, rfl, M⟩ := hrel
        by_cases hi : i < m2
        · rcases pl_of A5.out.2.2.2.1 A5.out.2.2.2.2.1 with hnil | ⟨pg, po, rfl, hpg, hc⟩
          · have := HM2.out; rw [hnil] at this; simp at this; omega
          obtain ⟨Aj, cj, c1, c2, c3, c4, c5⟩ := hc i (by rw [HM2.out]; exact hi)
          obtain ⟨x, hx⟩ : ∃ x, (q2.getD i []).length = x := ⟨_, rfl⟩
          rw [hx] at c1 c2 c3
          have d1 := (M.b.cell (p := ⟨pg, po + i, none⟩) hpg).trans c1
          have hap := append_tr M.swap (by omega) (by rw [HGA.out]; omega) (by rw [HGA.out]; exact hw5) (by omega) (q2.getD i []) Aj x cj hx c2 (by omega) c4 (c5.below M.b)
          have hqt : q2.take i ++ [q2.getD i []] = q2.take (i + 1) := by
            rw [List.take_succ_eq_append_getElem (by rw [HM2.out]; exact hi)]; simp [List.getD_eq_getElem?_getD, List.getElem?_eq_getElem (show i < q2.length by rw [HM2.out]; exact hi)]
          rw [hqt] at hap
          have HA := Lib.hid (And.intro hap hif)
          clear hap hqt hc c1 c2 c3 c4 c5 hx hif M
          go_wp2_with fail
          refine HA.out.1.mono ?_
          rintro e w8 ⟨rfl, ho', M8⟩
          have H8 := Lib.hid M8.swap
          clear M8 d1
          go_wp2_with fail
          go_roundg (gk - 1)
          case measure => have := HA.out.2; omega
          case rel =>
            have hif := HA.out.2
            exact ⟨i + 1, ho', by omega, by go_num, H8.out⟩
        · obtain rfl : m2 = i := by omega
          rw [List.take_of_length_le (by rw [HM2.out]; omega)] at M
          have Z := Lib.hid M
          clear hif hi M
          obtain ⟨wp, rfl⟩ : ∃ wp : World, wp = wr := ⟨_, rfl⟩
          go_wp2_with fail
          refine (mclone_any wp ga m hs Z.out.ia.hl Z.out.ia.hd Z.out.a).mono ?_
          rintro e w9 ⟨rfl, E9, B9⟩
          have hgac : ga < wp.heap.size := Z.out.a.lt
          have hgoc : go < wp.heap.size := Z.out.o.lt
          have M := Lib.hid (Tr3.mk (Z.out.step B9) E9)
          clear B9 E9 Z
          generalize wp.heap.size = gc at *
          have hr1 := mrootL_length q
          have hr2 := mrootL_length q2
          have HEQ := Lib.hid (fun W (t : TrSt w w5 W ga go m m2 hs ho q q2) (c : Blk W gc 111 (treeC m hs)) => mequal_any W t.at_.t gc m ga m (by omega) (by omega) hs hs t.ia.hl t.ia.hd t.ia.hl t.ia.hd c t.a)
          have HEO := Lib.hid (fun W (t : TrSt w w5 W ga go m m2 hs ho q q2) => mequal_any W t.at_.t ga m go m2 (by omega) (by omega) hs ho t.ia.hl t.ia.hd t.io.hl t.io.hd t.a t.o)
          rw [show decide (m = m ∧ trootL m hs = trootL m hs) = true by simp] at HEQ
          rw [troot_eq m hs q M.out.s.ia (by omega), troot_eq m2 ho q2 M.out.s.io (by omega)] at HEO
          have HR1 := Lib.hid (fun W (s : Below w5.heap.size w5 W) => rroot_any m q W P pc HM.out (by omega) (by omega) (by have := hcc.2; unfold maxLen at this; omega) ((pl_of A5.out.2.1 A5.out.2.2.1).below s))
          have HR2 := Lib.hid (fun W (s : Below w5.heap.size w5 W) => rroot_any m2 q2 W P2 pc2 HM2.out (by omega) (by omega) (by have := hcc2.2; unfold maxLen at this; omega) ((pl_of A5.out.2.2.2.1 A5.out.2.2.2.2.1).below s))
          by_cases hmm : m = m2
          · have t0 : ((m : Int) == (m2 : Int)) = true := by rw [beq_iff_eq]; omega
            have hq := fun W => run_equalIn_dig24 W (mrootL q) (mrootL q2) hr1 hr2
            rw [show decide (m = m2 ∧ mrootL q = mrootL q2) = decide (mrootL q = mrootL q2) by simp [hmm]] at HEO
            generalize mrootL q = r1 at *
            generalize mrootL q2 = r2 at *
            generalize decide (r1 = r2) = bb at *
            have HMM := Lib.hid hmm
            clear hmm
            go_wp2_with fail
            have M := Lib.hid (M.out.step (Below.refl _ _).drew)
            refine wp_region_pv (.still [true, false, false, false, false, false, false, false, false, false, false, false, false, false, false, false, false, false, false, false, false, false, false, false, false, false, false, false] (.look [false, true, true, true, true, false, false, false, false, false, false, false, false, false, false, false, false, false, false, false, false, false, false, false, false, false, false, false] (.last [false, false, false, false, false, true, false, false, false, false, false, false, false, false, false, false, false, false, false, false, false, false, false, false, false, false, false, false] (.look [false, false, false, false, false, false, true, true, true, true, true, false, true, true, true, true, true, false, false, false, false, false, false, false, false, false, false, false] (.act [false, false, false, false, false, false, false, false, false, false, false, true, false, false, false, false, false, false, false, false, false, false, false, false, false, false, false, false] (.still [false, false, false, false, false, false, false, false, false, false, false, false, false, false, false, false, false, true, false, true, false, false, true, false, false, false, false, false] (.look [false, false, false, false, false, false, false, false, false, false, false, false, false, false, false, false, false, false, true, false, false, true, false, false, false, false, false, false] (.act [false, false, false, false, false, false, false, false, false, false, false, false, false, false, false, false, false, false, false, false, true, false, false, false, false, false, false, false] (.last [false, false, false, false, false, false, false, false, false, false, false, false, false, false, false, false, false, false, false, false, false, false, false, true, false, false, false, false] (.look [false, false, false, false, false, false, false, false, false, false, false, false, false, false, false, false, false, false, false, false, false, false, false, false, true, true, true, true] .stop)))))))))) (by kernel_rfl) (by kernel_rfl) (fun _ _ d _ _ h => by cases d <;> exact h) ?_
            generalize w9.drew = V at *
            refine sv_still fun K0 hK0 => ?_
            simp only [pickM]
            go_wp2_with fail
            refine hK0.out _ ?_
            clear hK0 K0
            refine sv_look fun K0 hK0 => ?_
            simp only [pickM]
            go_wp2_with fail
            refine hK0.out _ ?_
            clear hK0 K0
            refine sv_last fun K2 hK2 => ?_
            simp only [pickM]
            go_wp2_with fail
            refine (HEQ.out _ M.out.s M.out.c).mono ?_
            rintro e x21 ⟨rfl, hBelow⟩
            have M := Lib.hid (M.out.step hBelow)
            go_wp2_with fail
            refine hK2.out _ _ ?_
            clear hK2 K2 hBelow
            refine sv_look fun K0 hK0 => ?_
            simp only [pickM]
            go_wp2_with fail
            refine hK0.out _ ?_
            clear hK0 K0
            refine sv_act fun K2 hK2 => ?_
            simp only [pickM]
            go_wp2_with fail
            refine (HEO.out _ M.out.s).mono ?_
            rintro e x22 ⟨rfl, hBelow⟩
            have M := Lib.hid (M.out.step hBelow)
            have lt := load32_run (A5.out.1.below M.out.s.b A5.out.1.lt)
            go_wp2_with fail
            have hsx22 := Lib.hid (show Sof (some x21) x22 from hBelow)
            refine hK2.out _ _ hsx22.out ?_
            clear hK2 K2 hBelow
            refine sv_still fun K0 hK0 => ?_
            simp only [pickM]
            go_wp2_with fail
            refine hK0.out _ ?_
            clear hK0 K0
            refine sv_look fun K0 hK0 => ?_
            simp only [pickM]
            go_wp2_with fail
            refine hK0.out _ ?_
            clear hK0 K0
            refine sv_act fun K2 hK2 => ?_
            simp only [pickM]
            go_wp2_with fail
            refine (HR1.out _ M.out.s.b).mono ?_
            rintro e x23 ⟨rfl, hBelow⟩
            have M := Lib.hid (M.out.step hBelow)
            go_wp2_with fail
            have hsx23 := Lib.hid (show Sof (some x22) x23 from hBelow)
            refine hK2.out _ _ hsx23.out ?_
            clear hK2 K2 hBelow
            refine sv_last fun K2 hK2 => ?_
            simp only [pickM]
            go_wp2_with fail
            refine (HR2.out _ M.out.s.b).mono ?_
            rintro e x24 ⟨rfl, hBelow⟩
            have M := Lib.hid (M.out.step hBelow)
            go_wp2_with fail
            refine hK2.out _ _ ?_
            clear hK2 K2 hBelow
            refine sv_look fun K0 hK0 => ?_
            simp only [pickM]
            go_wp2_with fail
            refine hK0.out _ ?_
            clear hK0 K0
            change Exit.then _ _ _ _ _
            clear lt
            clear HEQ HEO HR1 HR2
            have Z := Lib.hid (show TrSt w w5 x24 gc ga m m hs hs q q from ⟨M.out.c, M.out.s.a, M.out.s.ia, M.out.s.ia, M.out.s.b, M.out.s.at_⟩)
            clear M
            go_wp2_with fail
            go_loopg [11] m2 (fun f iv wr => ∃ (i : Nat) (hc : List (List Nat)), i + f = m2 ∧ iv = .int .i64 i ∧ TrSt w w5 wr gc ga (m + i) m hc hs (q ++ q2.take i) q)
            case atStart => exact ⟨0, hs, by omega, rfl, by simpa using Z.out⟩
            case round =>
              clear Z
              obtain ⟨i, hc, hif, rfl, M⟩ := hrel
              by_cases hi : i < m2
              · rcases pl_of A5.out.2.2.2.1 A5.out.2.2.2.2.1 with hnil | ⟨pg, po, rfl, hpg, hcc9⟩
                · have := HM2.out; rw [hnil] at this; simp at this; omega
                obtain ⟨Aj, cj, c1, c2, c3, c4, c5⟩ := hcc9 i (by rw [HM2.out]; exact hi)
                obtain ⟨x, hx⟩ : ∃ x, (q2.getD i []).length = x := ⟨_, rfl⟩
                rw [hx] at c1 c2 c3
                have d1 := (M.b.cell (p := ⟨pg, po + i, none⟩) hpg).trans c1
                have hap := append_tr M (by omega) (by rw [HGA.out]; omega) (by rw [HGA.out]; exact hw5) (by omega) (q2.getD i []) Aj x cj hx c2 (by omega) c4 (c5.below M.b)
                have hqt : (q ++ q2.take i) ++ [q2.getD i []] = q ++ q2.take (i + 1) := by
                  rw [List.take_succ_eq_append_getElem (by rw [HM2.out]; exact hi)]; simp [List.getD_eq_getElem?_getD, List.getElem?_eq_getElem (show i < q2.length by rw [HM2.out]; exact hi)]
                rw [hqt] at hap
                have HA := Lib.hid (And.intro hap hif)
                clear hap hqt hcc9 c1 c2 c3 c4 c5 hx hif M
                go_wp2_with fail
                refine HA.out.1.mono ?_
                rintro e w8 ⟨rfl, hc', M8⟩
                have H8 := Lib.hid M8
                clear M8 d1
                go_wp2_with fail
                go_roundg (gk - 1)
                case measure => have := HA.out.2; omega
                case rel =>
                  have hif := HA.out.2
                  exact ⟨i + 1, hc', by omega, by go_num, H8.out⟩
              · obtain rfl : m2 = i := by omega
                rw [List.take_of_length_le (by rw [HM2.out]; omega)] at M
                have Z := Lib.hid M
                clear hif hi M
                obtain ⟨wq, rfl⟩ : ∃ wq : World, wq = wr := ⟨_, rfl⟩
                have hZ := Z.out.b.size
                have O0 : OW (wq.alloc (.cells #[] 22)) wq.heap.size 22 1 (some ⟨wq.heap.size, 0, none⟩) 0 0 [] := ow_new wq 22 1 #[] 0 (Nat.le_refl _) (by decide) rfl
                have HO0 := Lib.hid O0
                clear O0
                go_upto_region 24 with (first
                  | (at_builtin; refine wpList_appW 41 22 (.slice none 0 0) 1 24 Tryd.underlying41 info22 rfl (by decide) rfl (.tmp 95) (.tmp 96) rfl wq.heap.size (some ⟨wq.heap.size, 0, none⟩) 0 0 [] rfl HO0.out P m pc vs rfl (by rw [A5.out.2.2.1.1, HM.out, Nat.mul_one]) HP0.out (A5.out.2.1.below (Z.out.b.alloc hZ _)) A5.out.2.2.1.one (by omega) (by omega) (by simp) ?_; intro A7 c7 w11 O7 B7; simp only [Nat.zero_add, List.nil_append] at O7; have H7 := Lib.hid (And.intro O7 (((Below.refl _ _).alloc (Nat.le_refl _) _).trans B7)); clear O7 B7)
                  | (at_builtin; refine wpList_appW 41 22 (.slice none 0 0) 1 24 Tryd.underlying41 info22 rfl (by decide) rfl (.tmp 97) (.tmp 98) rfl wq.heap.size A7 m c7 vs rfl H7.out.1 P2 m2 pc2 vs2 rfl (by rw [A5.out.2.2.2.2.1.1, HM2.out, Nat.mul_one]) HP2.out (A5.out.2.2.2.1.below (Z.out.b.trans (H7.out.2.mono hZ))) A5.out.2.2.2.2.1.one (by omega) (by omega) H7.out.2.size ?_; intro A8 c8 w12 O8 B8; have H8 := Lib.hid (And.intro O8 (H7.out.2.trans B8)); clear O8 B8))
                have M := Lib.hid (Z.out.step H8.out.2)
                have PA := Lib.hid (pl_of (OW.lv H8.out.1) ((A5.out.2.2.1.below M.out.b).append (A5.out.2.2.2.2.1.below M.out.b)))
                have hc8 := OW.cap' H8.out.1
                have hql : (q ++ q2).length = m + m2 := by rw [List.length_append, HM.out, HM2.out]
                clear H8 H7 HO0 Z
                have hr1 := mrootL_length q
                have hr3 := mrootL_length (q ++ q2)
                have HLA := Lib.hid (fun W (t : TrSt w w5 W gc ga (m + m2) m hc hs (q ++ q2) q) => mlen_any W ga m hs t.o)
                have HLC := Lib.hid (fun W (t : TrSt w w5 W gc ga (m + m2) m hc hs (q ++ q2) q) => mlen_any W gc (m + m2) hc t.a)
                have HTA := Lib.hid (fun W (t : TrSt w w5 W gc ga (m + m2) m hc hs (q ++ q2) q) => mtroot_any W t.at_.t ga m (by omega) hs t.io.hl t.io.hd t.o)
                have HTC := Lib.hid (fun W (t : TrSt w w5 W gc ga (m + m2) m hc hs (q ++ q2) q) => mtroot_any W t.at_.t gc (m + m2) (by omega) hc t.ia.hl t.ia.hd t.a)
                rw [troot_eq m hs q M.out.io (by omega)] at HTA
                rw [troot_eq (m + m2) hc (q ++ q2) M.out.ia (by omega)] at HTC
                have HRA := Lib.hid (fun W (s : Below w5.heap.size w5 W) => rroot_any m q W P pc HM.out (by omega) (by omega) (by have := hcc.2; unfold maxLen at this; omega) ((pl_of A5.out.2.1 A5.out.2.2.1).below s))
                have HRC := Lib.hid (fun W (p : PL W A8 (q ++ q2)) => rroot_any (m + m2) (q ++ q2) W A8 c8 hql (by omega) (by omega) (by have := hc8.2; unfold maxLen at this; omega) p)
                generalize mrootL q = r1 at *
                generalize mrootL (q ++ q2) = r3 at *
                have q1 := fun W => run_equalIn_dig W r1 r1 hr1 hr1
                have q3 := fun W => run_equalIn_dig W r3 r3 hr3 hr3
                have hdec1 : decide (r1 = r1) = true := by simp
                have hdec3 : decide (r3 = r3) = true := by simp
                have M := Lib.hid (M.out.step (Below.refl _ _).drew)
                have PA := Lib.hid (PA.out.below (Below.refl _ _).drew)
                refine wp_region_pv (.still [true, false, true, false, false, false, false, false, false, false, false, false, false, false, false, false, false, false, false, false, false, false, false, false, false, false, false, false] (.look [false, false, false, true, false, false, false, false, false, false, false, false, false, false, false, false, false, false, false, false, false, false, false, false, false, false, false, false] (.act [false, true, false, false, false, false, false, false, false, false, false, false, false, false, false, false, false, false, false, false, false, false, false, false, false, false, false, false] (.look [false, false, false, false, true, true, true, false, true, true, false, false, false, false, false, false, false, false, false, false, false, false, false, false, false, false, false, false] (.act [false, false, false, false, false, false, false, true, false, false, false, false, false, false, false, false, false, false, false, false, false, false, false, false, false, false, false, false] (.last [false, false, false, false, false, false, false, false, false, false, true, false, false, false, false, false, false, false, false, false, false, false, false, false, false, false, false, false] (.look [false, false, false, false, false, false, false, false, false, false, false, true, true, true, true, false, true, true, false, false, false, false, false, false, false, false, false, false] (.act [false, false, false, false, false, false, false, false, false, false, false, false, false, false, false, true, false, false, false, false, false, false, false, false, false, false, false, false] (.look [false, false, false, false, false, false, false, false, false, false, false, false, false, false, false, false, false, false, true, true, true, true, false, true, true, false, false, false] (.act [false, false, false, false, false, false, false, false, false, false, false, false, false, false, false, false, false, false, false, false, false, false, true, false, false, false, false, false] (.last [false, false, false, false, false, false, false, false, false, false, false, false, false, false, false, false, false, false, false, false, false, false, false, false, false, true, false, false] (.look [false, false, false, false, false, false, false, false, false, false, false, false, false, false, false, false, false, false, false, false, false, false, false, false, false, false, true, true] .stop)))))))))))) (by kernel_rfl) (by kernel_rfl) (fun _ _ d _ _ h => by cases d <;> exact h) ?_
                generalize w12.drew = V at *
                refine sv_still fun K0 hK0 => ?_
                simp only [pickM]
                go_wp2_with fail
                refine hK0.out _ ?_
                clear hK0 K0
                refine sv_look fun K0 hK0 => ?_
                simp only [pickM]
                go_wp2_with fail
                refine hK0.out _ ?_
                clear hK0 K0
                refine sv_act fun K2 hK2 => ?_
                simp only [pickM]
                go_wp2_with fail
                refine (HLA.out _ M.out).mono ?_
                rintro e V ⟨rfl, rfl⟩
                have hBelow : Below V.heap.size V V := Below.refl _ _
                have lt := load32_run (A5.out.1.below M.out.b A5.out.1.lt)
                go_wp2_with fail
                have hsV := Lib.hid (show Sof (some V) V from hBelow)
                refine hK2.out _ _ hsV.out ?_
                clear hK2 K2 hBelow
                refine sv_look fun K0 hK0 => ?_
                simp only [pickM]
                go_wp2_with fail
                refine hK0.out _ ?_
                clear hK0 K0
                refine sv_act fun K2 hK2 => ?_
                simp only [pickM]
                go_wp2_with fail
                refine (HTA.out _ M.out).mono ?_
                rintro e x62 ⟨rfl, hBelow⟩
                have M := Lib.hid (M.out.step hBelow)
                have PA := Lib.hid (PA.out.below hBelow)
                have lt := load32_run (A5.out.1.below M.out.b A5.out.1.lt)
                go_wp2_with fail
                have hsx62 := Lib.hid (show Sof (some V) x62 from hBelow)
                refine hK2.out _ _ hsx62.out ?_
                clear hK2 K2 hBelow
                refine sv_last fun K2 hK2 => ?_
                simp only [pickM]
                go_wp2_with fail
                refine (HRA.out _ M.out.b).mono ?_
                rintro e x63 ⟨rfl, hBelow⟩
                have M := Lib.hid (M.out.step hBelow)
                have PA := Lib.hid (PA.out.below hBelow)
                have lt := load32_run (A5.out.1.below M.out.b A5.out.1.lt)
                go_wp2_with fail
                refine hK2.out _ _ ?_
                clear hK2 K2 hBelow
                refine sv_look fun K0 hK0 => ?_
                simp only [pickM]
                go_wp2_with fail
                refine hK0.out _ ?_
                clear hK0 K0
                refine sv_act fun K2 hK2 => ?_
                simp only [pickM]
                go_wp2_with fail
                refine (HLC.out _ M.out).mono ?_
                rintro e x63 ⟨rfl, rfl⟩
                have hBelow : Below x63.heap.size x63 x63 := Below.refl _ _
                have lt := load32_run (A5.out.1.below M.out.b A5.out.1.lt)
                go_wp2_with fail
                have hsx63 := Lib.hid (show Sof (some x63) x63 from hBelow)
                refine hK2.out _ _ hsx63.out ?_
                clear hK2 K2 hBelow
                refine sv_look fun K0 hK0 => ?_
                simp only [pickM]
                go_wp2_with fail
                refine hK0.out _ ?_
                clear hK0 K0
                refine sv_act fun K2 hK2 => ?_
                simp only [pickM]
                go_wp2_with fail
                refine (HTC.out _ M.out).mono ?_
                rintro e x65 ⟨rfl, hBelow⟩
                have M := Lib.hid (M.out.step hBelow)
                have PA := Lib.hid (PA.out.below hBelow)
                have lt := load32_run (A5.out.1.below M.out.b A5.out.1.lt)
                go_wp2_with fail
                have hsx65 := Lib.hid (show Sof (some x63) x65 from hBelow)
                refine hK2.out _ _ hsx65.out ?_
                clear hK2 K2 hBelow
                refine sv_last fun K2 hK2 => ?_
                simp only [pickM]
                go_wp2_with fail
                refine (HRC.out _ PA.out).mono ?_
                rintro e x66 ⟨rfl, hBelow⟩
                have M := Lib.hid (M.out.step hBelow)
                have PA := Lib.hid (PA.out.below hBelow)
                have lt := load32_run (A5.out.1.below M.out.b A5.out.1.lt)
                go_wp2_with fail
                refine hK2.out _ _ ?_
                clear hK2 K2 hBelow
                refine sv_look fun K0 hK0 => ?_
                simp only [pickM]
                go_wp2_with fail
                refine hK0.out _ ?_
                clear hK0 K0
                change Exit.then _ _ _ _ _
                clear HLA HLC HTA HTC HRA HRC q1 q3 lt
                go_wp2_with fail
                refine (mappend_nil _ _ _ _).mono ?_
                rintro e w20 ⟨rfl, rfl⟩
                go_wp2_with fail
                refine (mlen_nil _).mono ?_
                rintro e w20 ⟨rfl, rfl⟩
                go_wp2_with fail
                refine (mtroot_nil _).mono ?_
                rintro e w20 ⟨rfl, B20⟩
                have M := Lib.hid (M.out.step B20)
                clear B20
                have qz := fun W => (show (Op.equalIn 10000 25 (.agg (u8s (zer 32))) _).run Tryd.prog W = .ok true W from eq_zer_lit W)
                go_wp2_with fail
                refine (mclone_nil _).mono ?_
                rintro e w21 ⟨rfl, rfl⟩
                clear qz
                go_wp2_with fail
                refine (mequal_nn _).mono ?_
                rintro e w21 ⟨rfl, rfl⟩
                go_wp2_with fail
                refine (mequal_ns _ _).mono ?_
                rintro e w21 ⟨rfl, rfl⟩
                go_wp2_with fail
                refine (mequal_sn _ _).mono ?_
                rintro e w21 ⟨rfl, rfl⟩
                go_wp2_with fail
                go_ret
                exact ⟨rfl, M.out.at_.b⟩
          · have t0 : ((m : Int) == (m2 : Int)) = false := by rw [beq_eq_false_iff_ne]; omega
            rw [show decide (m = m2 ∧ mrootL q = mrootL q2) = false by simp [hmm]] at HEO
            have HMM := Lib.hid hmm
            clear hmm
            go_wp2_with fail
            have M := Lib.hid (M.out.step (Below.refl _ _).drew)
            refine wp_region_pv (.still [true, false, false, false, false, false, false, false, false, false, false, false, false, false, false, false, false, false, false, false, false, false, false, false, false, false, false, false] (.look [false, true, true, true, true, false, false, false, false, false, false, false, false, false, false, false, false, false, false, false, false, false, false, false, false, false, false, false] (.last [false, false, false, false, false, true, false, false, false, false, false, false, false, false, false, false, false, false, false, false, false, false, false, false, false, false, false, false] (.look [false, false, false, false, false, false, true, true, true, true, true, false, true, true, true, true, true, false, false, false, false, false, false, false, false, false, false, false] (.act [false, false, false, false, false, false, false, false, false, false, false, true, false, false, false, false, false, false, false, false, false, false, false, false, false, false, false, false] (.still [false, false, false, false, false, false, false, false, false, false, false, false, false, false, false, false, false, true, false, true, false, false, true, false, false, false, false, false] (.look [false, false, false, false, false, false, false, false, false, false, false, false, false, false, false, false, false, false, true, false, false, true, false, false, false, false, false, false] (.act [false, false, false, false, false, false, false, false, false, false, false, false, false, false, false, false, false, false, false, false, true, false, false, false, false, false, false, false] (.last [false, false, false, false, false, false, false, false, false, false, false, false, false, false, false, false, false, false, false, false, false, false, false, true, false, false, false, false] (.look [false, false, false, false, false, false, false, false, false, false, false, false, false, false, false, false, false, false, false, false, false, false, false, false, true, true, true, true] .stop)))))))))) (by kernel_rfl) (by kernel_rfl) (fun _ _ d _ _ h => by cases d <;> exact h) ?_
            generalize w9.drew = V at *
            refine sv_still fun K0 hK0 => ?_
            simp only [pickM]
            go_wp2_with fail
            refine hK0.out _ ?_
            clear hK0 K0
            refine sv_look fun K0 hK0 => ?_
            simp only [pickM]
            go_wp2_with fail
            refine hK0.out _ ?_
            clear hK0 K0
            refine sv_last fun K2 hK2 => ?_
            simp only [pickM]
            go_wp2_with fail
            refine (HEQ.out _ M.out.s M.out.c).mono ?_
            rintro e x21 ⟨rfl, hBelow⟩
            have M := Lib.hid (M.out.step hBelow)
            go_wp2_with fail
            refine hK2.out _ _ ?_
            clear hK2 K2 hBelow
            refine sv_look fun K0 hK0 => ?_
            simp only [pickM]
            go_wp2_with fail
            refine hK0.out _ ?_
            clear hK0 K0
            refine sv_act fun K2 hK2 => ?_
            simp only [pickM]
            go_wp2_with fail
            refine (HEO.out _ M.out.s).mono ?_
            rintro e x22 ⟨rfl, hBelow⟩
            have M := Lib.hid (M.out.step hBelow)
            go_wp2_with fail
            have hsx22 := Lib.hid (show Sof (some x21) x22 from hBelow)
            refine hK2.out _ _ hsx22.out ?_
            clear hK2 K2 hBelow
            refine sv_still fun K0 hK0 => ?_
            simp only [pickM]
            go_wp2_with fail
            refine hK0.out _ ?_
            clear hK0 K0
            refine sv_look fun K0 hK0 => ?_
            simp only [pickM]
            go_wp2_with fail
            refine hK0.out _ ?_
            clear hK0 K0
            refine sv_act fun K2 hK2 => ?_
            simp only [pickM]
            go_wp2_with fail
            have hBelow : Below x22.heap.size x22 x22 := Below.refl _ _
            go_wp2_with fail
            have hsx22 := Lib.hid (show Sof (some x22) x22 from hBelow)
            refine hK2.out _ _ hsx22.out ?_
            clear hK2 K2 hBelow
            refine sv_last fun K2 hK2 => ?_
            simp only [pickM]
            go_wp2_with fail
            have hBelow : Below x22.heap.size x22 x22 := Below.refl _ _
            go_wp2_with fail
            refine hK2.out _ _ ?_
            clear hK2 K2 hBelow
            refine sv_look fun K0 hK0 => ?_
            simp only [pickM]
            go_wp2_with fail
            refine hK0.out _ ?_
            clear hK0 K0
            change Exit.then _ _ _ _ _
            clear HEQ HEO HR1 HR2
            have Z := Lib.hid (show TrSt w w5 x22 gc ga m m hs hs q q from ⟨M.out.c, M.out.s.a, M.out.s.ia, M.out.s.ia, M.out.s.b, M.out.s.at_⟩)
            clear M
            go_wp2_with fail
            go_loopg [11] m2 (fun f iv wr => ∃ (i : Nat) (hc : List (List Nat)), i + f = m2 ∧ iv = .int .i64 i ∧ TrSt w w5 wr gc ga (m + i) m hc hs (q ++ q2.take i) q)
            case atStart => exact ⟨0, hs, by omega, rfl, by simpa using Z.out⟩
            case round =>
              clear Z
              obtain ⟨i, hc, hif, rfl, M⟩ := hrel
              by_cases hi : i < m2
              · rcases pl_of A5.out.2.2.2.1 A5.out.2.2.2.2.1 with hnil | ⟨pg, po, rfl, hpg, hcc9⟩
                · have := HM2.out; rw [hnil] at this; simp at this; omega
                obtain ⟨Aj, cj, c1, c2, c3, c4, c5⟩ := hcc9 i (by rw [HM2.out]; exact hi)
                obtain ⟨x, hx⟩ : ∃ x, (q2.getD i []).length = x := ⟨_, rfl⟩
                rw [hx] at c1 c2 c3
                have d1 := (M.b.cell (p := ⟨pg, po + i, none⟩) hpg).trans c1
                have hap := append_tr M (by omega) (by rw [HGA.out]; omega) (by rw [HGA.out]; exact hw5) (by omega) (q2.getD i []) Aj x cj hx c2 (by omega) c4 (c5.below M.b)
                have hqt : (q ++ q2.take i) ++ [q2.getD i []] = q ++ q2.take (i + 1) := by
                  rw [List.take_succ_eq_append_getElem (by rw [HM2.out]; exact hi)]; simp [List.getD_eq_getElem?_getD, List.getElem?_eq_getElem (show i < q2.length by rw [HM2.out]; exact hi)]
                rw [hqt] at hap
                have HA := Lib.hid (And.intro hap hif)
                clear hap hqt hcc9 c1 c2 c3 c4 c5 hx hif M
                go_wp2_with fail
                refine HA.out.1.mono ?_
                rintro e w8 ⟨rfl, hc', M8⟩
                have H8 := Lib.hid M8
                clear M8 d1
                go_wp2_with fail
                go_roundg (gk - 1)
                case measure => have := HA.out.2; omega
                case rel =>
                  have hif := HA.out.2
                  exact ⟨i + 1, hc', by omega, by go_num, H8.out⟩
              · obtain rfl : m2 = i := by omega
                rw [List.take_of_length_le (by rw [HM2.out]; omega)] at M
                have Z := Lib.hid M
                clear hif hi M
                obtain ⟨wq, rfl⟩ : ∃ wq : World, wq = wr := ⟨_, rfl⟩
                have hZ := Z.out.b.size
                have O0 : OW (wq.alloc (.cells #[] 22)) wq.heap.size 22 1 (some ⟨wq.heap.size, 0, none⟩) 0 0 [] := ow_new wq 22 1 #[] 0 (Nat.le_refl _) (by decide) rfl
                have HO0 := Lib.hid O0
                clear O0
                go_upto_region 24 with (first
                  | (at_builtin; refine wpList_appW 41 22 (.slice none 0 0) 1 24 Tryd.underlying41 info22 rfl (by decide) rfl (.tmp 95) (.tmp 96) rfl wq.heap.size (some ⟨wq.heap.size, 0, none⟩) 0 0 [] rfl HO0.out P m pc vs rfl (by rw [A5.out.2.2.1.1, HM.out, Nat.mul_one]) HP0.out (A5.out.2.1.below (Z.out.b.alloc hZ _)) A5.out.2.2.1.one (by omega) (by omega) (by simp) ?_; intro A7 c7 w11 O7 B7; simp only [Nat.zero_add, List.nil_append] at O7; have H7 := Lib.hid (And.intro O7 (((Below.refl _ _).alloc (Nat.le_refl _) _).trans B7)); clear O7 B7)
                  | (at_builtin; refine wpList_appW 41 22 (.slice none 0 0) 1 24 Tryd.underlying41 info22 rfl (by decide) rfl (.tmp 97) (.tmp 98) rfl wq.heap.size A7 m c7 vs rfl H7.out.1 P2 m2 pc2 vs2 rfl (by rw [A5.out.2.2.2.2.1.1, HM2.out, Nat.mul_one]) HP2.out (A5.out.2.2.2.1.below (Z.out.b.trans (H7.out.2.mono hZ))) A5.out.2.2.2.2.1.one (by omega) (by omega) H7.out.2.size ?_; intro A8 c8 w12 O8 B8; have H8 := Lib.hid (And.intro O8 (H7.out.2.trans B8)); clear O8 B8))
                have M := Lib.hid (Z.out.step H8.out.2)
                have PA := Lib.hid (pl_of (OW.lv H8.out.1) ((A5.out.2.2.1.below M.out.b).append (A5.out.2.2.2.2.1.below M.out.b)))
                have hc8 := OW.cap' H8.out.1
                have hql : (q ++ q2).length = m + m2 := by rw [List.length_append, HM.out, HM2.out]
                clear H8 H7 HO0 Z
                have hr1 := mrootL_length q
                have hr3 := mrootL_length (q ++ q2)
                have HLA := Lib.hid (fun W (t : TrSt w w5 W gc ga (m + m2) m hc hs (q ++ q2) q) => mlen_any W ga m hs t.o)
                have HLC := Lib.hid (fun W (t : TrSt w w5 W gc ga (m + m2) m hc hs (q ++ q2) q) => mlen_any W gc (m + m2) hc t.a)
                have HTA := Lib.hid (fun W (t : TrSt w w5 W gc ga (m + m2) m hc hs (q ++ q2) q) => mtroot_any W t.at_.t ga m (by omega) hs t.io.hl t.io.hd t.o)
                have HTC := Lib.hid (fun W (t : TrSt w w5 W gc ga (m + m2) m hc hs (q ++ q2) q) => mtroot_any W t.at_.t gc (m + m2) (by omega) hc t.ia.hl t.ia.hd t.a)
                rw [troot_eq m hs q M.out.io (by omega)] at HTA
                rw [troot_eq (m + m2) hc (q ++ q2) M.out.ia (by omega)] at HTC
                have HRA := Lib.hid (fun W (s : Below w5.heap.size w5 W) => rroot_any m q W P pc HM.out (by omega) (by omega) (by have := hcc.2; unfold maxLen at this; omega) ((pl_of A5.out.2.1 A5.out.2.2.1).below s))
                have HRC := Lib.hid (fun W (p : PL W A8 (q ++ q2)) => rroot_any (m + m2) (q ++ q2) W A8 c8 hql (by omega) (by omega) (by have := hc8.2; unfold maxLen at this; omega) p)
                generalize mrootL q = r1 at *
                generalize mrootL (q ++ q2) = r3 at *
                have q1 := fun W => run_equalIn_dig W r1 r1 hr1 hr1
                have q3 := fun W => run_equalIn_dig W r3 r3 hr3 hr3
                have hdec1 : decide (r1 = r1) = true := by simp
                have hdec3 : decide (r3 = r3) = true := by simp
                have M := Lib.hid (M.out.step (Below.refl _ _).drew)
                have PA := Lib.hid (PA.out.below (Below.refl _ _).drew)
                refine wp_region_pv (.still [true, false, true, false, false, false, false, false, false, false, false, false, false, false, false, false, false, false, false, false, false, false, false, false, false, false, false, false] (.look [false, false, false, true, false, false, false, false, false, false, false, false, false, false, false, false, false, false, false, false, false, false, false, false, false, false, false, false] (.act [false, true, false, false, false, false, false, false, false, false, false, false, false, false, false, false, false, false, false, false, false, false, false, false, false, false, false, false] (.look [false, false, false, false, true, true, true, false, true, true, false, false, false, false, false, false, false, false, false, false, false, false, false, false, false, false, false, false] (.act [false, false, false, false, false, false, false, true, false, false, false, false, false, false, false, false, false, false, false, false, false, false, false, false, false, false, false, false] (.last [false, false, false, false, false, false, false, false, false, false, true, false, false, false, false, false, false, false, false, false, false, false, false, false, false, false, false, false] (.look [false, false, false, false, false, false, false, false, false, false, false, true, true, true, true, false, true, true, false, false, false, false, false, false, false, false, false, false] (.act [false, false, false, false, false, false, false, false, false, false, false, false, false, false, false, true, false, false, false, false, false, false, false, false, false, false, false, false] (.look [false, false, false, false, false, false, false, false, false, false, false, false, false, false, false, false, false, false, true, true, true, true, false, true, true, false, false, false] (.act [false, false, false, false, false, false, false, false, false, false, false, false, false, false, false, false, false, false, false, false, false, false, true, false, false, false, false, false] (.last [false, false, false, false, false, false, false, false, false, false, false, false, false, false, false, false, false, false, false, false, false, false, false, false, false, true, false, false] (.look [false, false, false, false, false, false, false, false, false, false, false, false, false, false, false, false, false, false, false, false, false, false, false, false, false, false, true, true] .stop)))))))))))) (by kernel_rfl) (by kernel_rfl) (fun _ _ d _ _ h => by cases d <;> exact h) ?_
                generalize w12.drew = V at *
                refine sv_still fun K0 hK0 => ?_
                simp only [pickM]
                go_wp2_with fail
                refine hK0.out _ ?_
                clear hK0 K0
                refine sv_look fun K0 hK0 => ?_
                simp only [pickM]
                go_wp2_with fail
                refine hK0.out _ ?_
                clear hK0 K0
                refine sv_act fun K2 hK2 => ?_
                simp only [pickM]
                go_wp2_with fail
                refine (HLA.out _ M.out).mono ?_
                rintro e V ⟨rfl, rfl⟩
                have hBelow : Below V.heap.size V V := Below.refl _ _
                have lt := load32_run (A5.out.1.below M.out.b A5.out.1.lt)
                go_wp2_with fail
                have hsV := Lib.hid (show Sof (some V) V from hBelow)
                refine hK2.out _ _ hsV.out ?_
                clear hK2 K2 hBelow
                refine sv_look fun K0 hK0 => ?_
                simp only [pickM]
                go_wp2_with fail
                refine hK0.out _ ?_
                clear hK0 K0
                refine sv_act fun K2 hK2 => ?_
                simp only [pickM]
                go_wp2_with fail
                refine (HTA.out _ M.out).mono ?_
                rintro e x62 ⟨rfl, hBelow⟩
                have M := Lib.hid (M.out.step hBelow)
                have PA := Lib.hid (PA.out.below hBelow)
                have lt := load32_run (A5.out.1.below M.out.b A5.out.1.lt)
                go_wp2_with fail
                have hsx62 := Lib.hid (show Sof (some V) x62 from hBelow)
                refine hK2.out _ _ hsx62.out ?_
                clear hK2 K2 hBelow
                refine sv_last fun K2 hK2 => ?_
                simp only [pickM]
                go_wp2_with fail
                refine (HRA.out _ M.out.b).mono ?_
                rintro e x63 ⟨rfl, hBelow⟩
                have M := Lib.hid (M.out.step hBelow)
                have PA := Lib.hid (PA.out.below hBelow)
                have lt := load32_run (A5.out.1.below M.out.b A5.out.1.lt)
                go_wp2_with fail
                refine hK2.out _ _ ?_
                clear hK2 K2 hBelow
                refine sv_look fun K0 hK0 => ?_
                simp only [pickM]
                go_wp2_with fail
                refine hK0.out _ ?_
                clear hK0 K0
                refine sv_act fun K2 hK2 => ?_
                simp only [pickM]
                go_wp2_with fail
                refine (HLC.out _ M.out).mono ?_
                rintro e x63 ⟨rfl, rfl⟩
                have hBelow : Below x63.heap.size x63 x63 := Below.refl _ _
                have lt := load32_run (A5.out.1.below M.out.b A5.out.1.lt)
                go_wp2_with fail
                have hsx63 := Lib.hid (show Sof (some x63) x63 from hBelow)
                refine hK2.out _ _ hsx63.out ?_
                clear hK2 K2 hBelow
                refine sv_look fun K0 hK0 => ?_
                simp only [pickM]
                go_wp2_with fail
                refine hK0.out _ ?_
                clear hK0 K0
                refine sv_act fun K2 hK2 => ?_
                simp only [pickM]
                go_wp2_with fail
                refine (HTC.out _ M.out).mono ?_
                rintro e x65 ⟨rfl, hBelow⟩
                have M := Lib.hid (M.out.step hBelow)
                have PA := Lib.hid (PA.out.below hBelow)
                have lt := load32_run (A5.out.1.below M.out.b A5.out.1.lt)
                go_wp2_with fail
                have hsx65 := Lib.hid (show Sof (some x63) x65 from hBelow)
                refine hK2.out _ _ hsx65.out ?_
                clear hK2 K2 hBelow
                refine sv_last fun K2 hK2 => ?_
                simp only [pickM]
                go_wp2_with fail
                refine (HRC.out _ PA.out).mono ?_
                rintro e x66 ⟨rfl, hBelow⟩
                have M := Lib.hid (M.out.step hBelow)
                have PA := Lib.hid (PA.out.below hBelow)
                have lt := load32_run (A5.out.1.below M.out.b A5.out.1.lt)
                go_wp2_with fail
                refine hK2.out _ _ ?_
                clear hK2 K2 hBelow
                refine sv_look fun K0 hK0 => ?_
                simp only [pickM]
                go_wp2_with fail
                refine hK0.out _ ?_
                clear hK0 K0
                change Exit.then _ _ _ _ _
                clear HLA HLC HTA HTC HRA HRC q1 q3 lt
                go_wp2_with fail
                refine (mappend_nil _ _ _ _).mono ?_
                rintro e w20 ⟨rfl, rfl⟩
                go_wp2_with fail
                refine (mlen_nil _).mono ?_
                rintro e w20 ⟨rfl, rfl⟩
                go_wp2_with fail
                refine (mtroot_nil _).mono ?_
                rintro e w20 ⟨rfl, B20⟩
                have M := Lib.hid (M.out.step B20)
                clear B20
                have qz := fun W => (show (Op.equalIn 10000 25 (.agg (u8s (zer 32))) _).run Tryd.prog W = .ok true W from eq_zer_lit W)
                go_wp2_with fail
                refine (mclone_nil _).mono ?_
                rintro e w21 ⟨rfl, rfl⟩
                clear qz
                go_wp2_with fail
                refine (mequal_nn _).mono ?_
                rintro e w21 ⟨rfl, rfl⟩
                go_wp2_with fail
                refine (mequal_ns _ _).mono ?_
                rintro e w21 ⟨rfl, rfl⟩
                go_wp2_with fail
                refine (mequal_sn _ _).mono ?_
                rintro e w21 ⟨rfl, rfl⟩
                go_wp2_with fail
                go_ret
                exact ⟨rfl, M.out.at_.b⟩
end Go.Proofs.YtediocpdpghbfaaDoor
