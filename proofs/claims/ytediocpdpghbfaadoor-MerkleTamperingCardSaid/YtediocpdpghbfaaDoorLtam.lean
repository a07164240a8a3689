/- The law of MerkleTampering: the walk. -/
import Derived.Test.YtediocpdpghbfaaDoorMrve
import Derived.Test.YtediocpdpghbfaaDoorMchg
import Derived.Test.YtediocpdpghbfaaDoorMcol
import Derived.Test.YtediocpdpghbfaaDoorMkno
import Derived.Deep.DeepCutAuto
set_option linter.unusedSimpArgs false
set_option linter.unusedVariables false
namespace Go.Proofs.YtediocpdpghbfaaDoor
open Go Go.RowKit

theorem verifyL_prove (l : List (List Nat)) (n i : Nat) (hl : l.length = n) (hi : i < n) : verifyL (mrootL l) n i (l.getD i []) (proveL l i) = 0 := by
  obtain ⟨e1, e2⟩ := proveL_ok n l i hl hi
  unfold verifyL
  rw [if_neg (by rw [e1]; simp), if_neg (by rw [e2]; simp)]
theorem pw_below {w w' : World} {A : Option Addr} {ps : List (List Nat)} (h : PW w A ps) (hb : Below w.heap.size w w') : PW w' A ps := by
  rcases h with h | ⟨g, off, hA, hg, hc⟩
  · exact .inl h
  · refine .inr ⟨g, off, hA, Nat.lt_of_lt_of_le hg hb.size, fun j hj => ?_⟩
    obtain ⟨Aj, cj, c1, c2, c3, c4, c5⟩ := hc j hj
    exact ⟨Aj, cj, (hb.cell (p := ⟨g, off + j, none⟩) hg).trans c1, c2, c3, c4, c5.below hb⟩
def badI (n i : Int) : Bool := decide (n < 1 ∨ 65536 < n ∨ i < 0 ∨ n ≤ i)
def verifyI (root : List Nat) (n i : Int) (leaf : List Nat) (ps : List (List Nat)) : Int := if badI n i = true then 2 else verifyL root n.toNat i.toNat leaf ps
theorem badI_no {n i : Int} (h : badI n i = false) : ∃ a b : Nat, n = a ∧ i = b ∧ 1 ≤ a ∧ a ≤ 65536 ∧ b < a := by
  unfold badI at h
  rw [decide_eq_false_iff_not] at h
  exact ⟨n.toNat, i.toNat, by omega, by omega, by omega, by omega, by omega⟩
theorem mverify_all (w : World) (hT : Tabs w) (root : List Nat) (hr : root.length = 32) (n i : Int) (leaf : List Nat) (A : Option Addr) (m cap : Nat) (hm : leaf.length = m) (hcap : m ≤ cap) (hm2 : m ≤ 2000) (hB : Bytes leaf) (hR : RW w A cap leaf)
    (ps : List (List Nat)) (P : Option Addr) (k pc : Nat) (hk : ps.length = k) (hk2 : k ≤ 65536) (hd : Digs ps) (hP : LV w P (hcell ps)) :
    Calls Tryd.prog 53 #[.agg (u8s root), .int .i64 n, .int .i64 i, .slice A m cap, .slice P k pc] w fun e w' => e = .returned (.int .i64 (verifyI root n i leaf ps)) ∧ Below w.heap.size w w' := by
  unfold verifyI
  cases hb : badI n i with
  | true => rw [if_pos rfl]; exact mverify_bad w _ ⟨_, rfl⟩ n i (by unfold badI at hb; exact of_decide_eq_true hb) _ _
  | false =>
    obtain ⟨a, b, rfl, rfl, h1, h2, h3⟩ := badI_no hb
    rw [if_neg (by simp)]
    exact mverify_any w hT root hr a b h1 h2 h3 leaf A m cap hm hcap hm2 hB hR ps P k pc hk hk2 hd hP
theorem rverify_all (w : World) (root : List Nat) (hr : root.length = 32) (n i : Int) (leaf : List Nat) (A : Option Addr) (m cap : Nat) (hm : leaf.length = m) (hcap : m ≤ cap) (hm2 : m ≤ 2000) (hB : Bytes leaf) (hR : RW w A cap leaf)
    (ps : List (List Nat)) (P : Option Addr) (k pc : Nat) (hk : ps.length = k) (hk2 : k ≤ 65536) (hkp : k ≤ pc) (hpc : pc ≤ 9223372036854775807) (hd : Digs ps) (hP : LV w P (hcell ps)) :
    Calls Tryd.prog 54 #[.agg (u32s TT), .agg (u8s root), .int .i64 n, .int .i64 i, .slice A m cap, .slice P k pc] w fun e w' => e = .returned (.int .i64 (verifyI root n i leaf ps)) ∧ Below w.heap.size w w' := by
  unfold verifyI
  cases hb : badI n i with
  | true => rw [if_pos rfl]; exact rverify_bad w root n i (by unfold badI at hb; exact of_decide_eq_true hb) _ _
  | false =>
    obtain ⟨a, b, rfl, rfl, h1, h2, h3⟩ := badI_no hb
    rw [if_neg (by simp)]
    exact rverify_any w root hr a b h1 h2 h3 leaf A m cap hm hcap hm2 hB hR ps P k pc hk hk2 hkp hpc hd hP
theorem rw_step0 {w w' : World} {A : Option Addr} {c : Nat} {b : List Nat} (h : RW w A c b) (hb : Below w.heap.size w w') : RW w' A c b := h.below hb
structure TmS (w W : World) (gt g11 g13 : Nat) (kd aa bb : Nat) (A : Option Addr) (q : List (List Nat)) (r : List Nat) (cl : Array Value) : Prop where
  c : Blk W w.heap.size 84 #[.int .u8 (kd : Int), .int .u8 (aa : Int), .int .u8 (bb : Int)]
  t : Blk W gt 32 (u32s TT)
  r : Blk W g11 25 (u8s r)
  x : Blk W g13 87 cl
  p : PL W A q
  a : At w W
theorem TmS.step {w W W' : World} {gt g11 g13 kd aa bb : Nat} {A : Option Addr} {q : List (List Nat)} {r : List Nat} {cl : Array Value} (h : TmS w W gt g11 g13 kd aa bb A q r cl) (b : Below W.heap.size W W') : TmS w W' gt g11 g13 kd aa bb A q r cl :=
  ⟨h.c.below b h.c.lt, h.t.below b h.t.lt, h.r.below b h.r.lt, h.x.below b h.x.lt, h.p.below b, h.a.step b⟩
/-- the changed claim, and what it leaves readable -/
structure TmY (W : World) (g14 : Nat) (cy : Array Value) (L : Option Addr) (lc : Nat) (leaf : List Nat) (YP : Option Addr) (qs : List (List Nat)) (XA : Option Addr) (xc : Nat) (xl : List Nat) (P : Option Addr) (pf : List (List Nat)) : Prop where
  y : Blk W g14 87 cy
  l : RW W L lc leaf
  p : LV W YP (hcell qs)
  xl : RW W XA xc xl
  xp : LV W P (hcell pf)
theorem TmY.step {W W' : World} {g14 : Nat} {cy : Array Value} {L : Option Addr} {lc : Nat} {leaf : List Nat} {YP : Option Addr} {qs : List (List Nat)} {XA : Option Addr} {xc : Nat} {xl : List Nat} {P : Option Addr} {pf : List (List Nat)} (h : TmY W g14 cy L lc leaf YP qs XA xc xl P pf) (b : Below W.heap.size W W') : TmY W' g14 cy L lc leaf YP qs XA xc xl P pf :=
  ⟨h.y.below b h.y.lt, h.l.below b, h.p.below b, h.xl.below b, h.xp.below b⟩
def sameB (xl leaf : List Nat) (pf qs : List (List Nat)) : Bool := decide (xl = leaf ∧ pf = qs)
attribute [local go_sem ↓] ld25 st25 ld32 st32 ld24 st24 ld87 st87 alc87_rule alc25_rule bld87_rule bs67_rule
attribute [local go_sem] alc87_run alc25_run
set_option maxRecDepth 100000 in
set_option maxHeartbeats 16000000 in
theorem law_merkleTampering (w : World) (hT : Tabs w) (x0 : Nat) (hx0 : x0 < 256) (kd aa bb : Nat) (hkd : kd < 256) (haa : aa < 256) (hbb : bb < 256)
    (ps : List (List Nat)) (A : Option Addr) (ca n : Nat) (ln : ps.length = n) (ha : n ≤ ca) (hca : ca ≤ 9223372036854775807) (hp : PW w A ps) :
    Calls Tryd.prog 18 #[.slice A n ca, .int .u8 x0, .agg #[.int .u8 kd, .int .u8 aa, .int .u8 bb]] w fun e w' => e = .returned (.bool true) ∧ Below w.heap.size w w' := by
  have H0 := Lib.hid (And.intro hT (And.intro ln hp))
  clear hT ln hp
  have C0 := Lib.hid (show Blk (w.alloc (.cells #[.int .u8 (kd : Int), .int .u8 (aa : Int), .int .u8 (bb : Int)] 84)) w.heap.size 84 #[.int .u8 (kd : Int), .int .u8 (aa : Int), .int .u8 (bb : Int)] from Blk.new _ _ _)
  have A0 := Lib.hid (At.mk H0.out.1 ((Below.refl w.heap.size w).alloc (Nat.le_refl _) (.cells #[.int .u8 (kd : Int), .int .u8 (aa : Int), .int .u8 (bb : Int)] 84)))
  go_enter Tryd.func18, Tryd.ntmps18
  go_wp2_with fail
  generalize w.alloc (.cells #[.int .u8 (kd : Int), .int .u8 (aa : Int), .int .u8 (bb : Int)] 84) = w0 at *
  refine (mknown_any _ A0.out.t).mono ?_
  rintro e w1 ⟨rfl, B1⟩
  have A1 := Lib.hid (And.intro (A0.out.step B1) (C0.out.below B1 C0.out.lt))
  clear B1 A0 C0
  go_wp2_with fail
  refine (rmake_any _).mono ?_
  rintro e w2 ⟨rfl, B2⟩
  have A2 := Lib.hid (And.intro (A1.out.1.step B2) (A1.out.2.below B2 A1.out.2.lt))
  clear B2 A1
  go_wp2_with (refine wpList_fillM rfl 32 (.tmp 7) (.tmp 23) rfl (u32s TT) rfl rfl (size32 _ TT_length) (by rw [u32s_size, TT_length]; rfl) (u32s_one _) ?_; intro w3 E3 B3; have A3 := Lib.hid (And.intro E3 (And.intro (A2.out.1.step B3) (A2.out.2.below B3 A2.out.2.lt))); clear E3 B3)
  generalize w2.heap.size = gt at *
  clear A2
  refine (few_any w3 ps A ca n H0.out.2.1 ha hca (pw_below H0.out.2.2 A3.out.2.1.b)).mono ?_
  rintro e w4 ⟨A', c', vs, rfl, O4, V4, B4⟩
  have hm20 : (fewL ps).length ≤ 20 := by rw [fewL_length]; omega
  have hcc := O4.cap'
  have M4 := Lib.hid (And.intro (A3.out.2.2.below B4 A3.out.2.2.lt) (And.intro (A3.out.1.below B4 A3.out.1.lt) (And.intro (pl_of O4.lv V4) (A3.out.2.1.step B4))))
  clear O4 V4 B4 A3
  generalize fewL ps = q at *
  obtain ⟨m, hm⟩ : ∃ m, q.length = m := ⟨_, rfl⟩
  rw [hm] at hm20 hcc ⊢
  have HM := Lib.hid hm
  clear hm
  have hc'' : c' ≤ 9223372036854775807 := by have := hcc.2; unfold maxLen at this; omega
  by_cases hm0 : m = 0
  · subst hm0
    go_wp2_with fail
    go_ret
    exact ⟨rfl, M4.out.2.2.2.b⟩
  have tm0 : ((m : Int) == 0) = false := by rw [beq_eq_false_iff_ne]; omega
  have tm1 : (0 : Int) < (m : Int) := by omega
  obtain ⟨i, hi, ei⟩ := idx_mod x0 m (by omega)
  go_wp2_with fail
  refine (mprove_any m q i w4 A' c' HM.out (by omega) (by omega) hc'' hi M4.out.2.2.2.t M4.out.2.2.1).mono ?_
  rintro e w5 ⟨P, pc, rfl, O5, B5⟩
  have hpd := proveL_digs m q i HM.out
  have hv := verifyL_prove q m i HM.out hi
  have hr32 := mrootL_length q
  have hrB := mrootL_bytes q
  have hcp := OW.cap' O5.2.2
  have M5 := Lib.hid (And.intro (M4.out.1.below B5 M4.out.1.lt) (And.intro (M4.out.2.1.below B5 M4.out.2.1.lt) (And.intro (M4.out.2.2.1.below B5) (And.intro (M4.out.2.2.2.step B5) (OW.lv O5.2.2)))))
  have hpn : P = none → pc = 0 := fun e => by
    subst e
    rcases O5.2.2.2 with ⟨hv, _⟩ | ⟨g, cap', cur, hv, _⟩
    · injection hv
    · cases hv
  have HRT := Lib.hid (fun W (s : At w W) (p : PL W A' q) => mroot_any m q W A' c' HM.out (by omega) (by omega) hc'' s.t p)
  have hpl := hpd.2
  have HPD := Lib.hid (And.intro hpd.1 (And.intro hv (And.intro hpn hrB)))
  clear M4 O5 B5 hpd hv hpn hrB
  generalize proveL q i = pf at *
  generalize mrootL q = r at *
  obtain ⟨k, hk⟩ : ∃ k, pf.length = k := ⟨_, rfl⟩
  rw [hk] at hpl hcp ⊢
  have HK := Lib.hid hk
  clear hk
  go_wp2_with fail
  refine (HRT.out _ M5.out.2.2.2.1 M5.out.2.2.1).mono ?_
  rintro e w6 ⟨rfl, B6⟩
  go_upto_region 12 with (refine wpList_fillM rfl 25 (.tmp 11) (.tmp 43) rfl (u8s r) rfl rfl (size25 _ hr32) (by rw [u8s_size, u8s_size, hr32]; rfl) (u8s_one _) ?_; intro w7 E7 B7; have H7 := Lib.hid (And.intro E7 (B6.trans (B7.mono B6.size))); clear E7 B7 B6)
  have M7 := Lib.hid (And.intro (M5.out.1.below H7.out.2 M5.out.1.lt) (And.intro (M5.out.2.1.below H7.out.2 M5.out.2.1.lt) (And.intro (M5.out.2.2.1.below H7.out.2) (And.intro (M5.out.2.2.2.1.step H7.out.2) (And.intro (M5.out.2.2.2.2.below H7.out.2) H7.out.1)))))
  clear M5 H7 HRT
  generalize w6.heap.size = g11 at *
  have hcell : PL w7 A' q := M7.out.2.2.1
  rcases hcell with hnil | ⟨pg, po, rfl, hpg, hc⟩
  · exfalso
    have := HM.out; rw [hnil] at this; simp at this; omega
  obtain ⟨XA, xc, c1, c2, c3, c4, c5⟩ := hc i (by rw [HM.out]; exact hi)
  obtain ⟨xl, hxl⟩ : ∃ xl, q.getD i [] = xl := ⟨_, rfl⟩
  have hv2 := HPD.out.2.1
  rw [hxl] at c1 c2 c3 c4 c5 hv2
  obtain ⟨lx, hlx⟩ : ∃ lx, xl.length = lx := ⟨_, rfl⟩
  rw [hlx] at c1 c2 c3
  have HXL := Lib.hid (And.intro hlx (And.intro c4 (And.intro c5 hv2)))
  clear hxl hlx c4 c5 hv2 hc
  have sd := (M7.out.2.2.1)
  clear sd
  have l1 := load25_run M7.out.2.2.2.2.2 hr32
  have hb87 := fun (W : World) => bld87_run W r hr32 m i XA P lx xc k pc
  have HL7 := Lib.hid (And.intro M7.out.1 (And.intro M7.out.2.1 (And.intro M7.out.2.2.1 (And.intro M7.out.2.2.2.1 (And.intro M7.out.2.2.2.2.1 M7.out.2.2.2.2.2)))))
  clear M7
  have HV0 := Lib.hid (Below.refl w7.heap.size w7).drew
  have c1' : w7.drew.cell? ⟨pg, po + i, none⟩ = some (.slice XA lx xc) := c1
  have l1' := load25_run HL7.out.2.2.2.2.2.drew hr32
  refine wp_region_pv (.still [false, true, false, true, true, true, false, false, true, false, false, false] (.look [true, false, true, false, false, false, true, true, false, true, false, false] (.act [false, false, false, false, false, false, false, false, false, false, true, false] (.last [false, false, false, false, false, false, false, false, false, false, false, true] .stop)))) (by kernel_rfl) (by kernel_rfl) (fun _ _ d _ _ h => by cases d <;> exact h) ?_
  generalize w7.drew = V at *
  refine sv_still fun K0 hK0 => ?_
  simp only [pickM]
  go_wp2_with fail
  refine hK0.out _ ?_
  clear hK0 K0
  refine sv_look fun K0 hK0 => ?_
  simp only [pickM]
  go_wp2_with fail
  refine hK0.out _ ?_
  clear hK0 K0
  refine sv_act fun K2 hK2 => ?_
  simp only [pickM]
  go_wp2_with fail
  obtain ⟨x21, hx⟩ : ∃ X, X = World.alloc V (.cells z87 87) := ⟨_, rfl⟩
  rw [← hx]
  have hBelow : Below V.heap.size V x21 := by rw [hx]; exact (Below.refl _ _).alloc (Nat.le_refl _) _
  have E := Lib.hid (show Blk x21 V.heap.size 87 z87 by rw [hx]; exact Blk.new V 87 _)
  have HBX := Lib.hid (show Below w7.heap.size w7 x21 from HV0.out.trans (hBelow.mono HV0.out.size))
  have hge : w7.heap.size ≤ V.heap.size := HV0.out.size
  clear hx
  go_wp2_with fail
  have hsx21 := Lib.hid (show Sof (some V) x21 from hBelow)
  refine hK2.out _ _ hsx21.out ?_
  clear hK2 K2 hBelow
  refine sv_last fun K2 hK2 => ?_
  simp only [pickM]
  have s1 := store87_run E.out (by rfl) (clC_size r hr32 m i (.slice XA lx xc) (.slice P k pc)) (clC_one r m i XA P lx xc k pc)
  go_wp2_with fail
  obtain ⟨x22, hx⟩ : ∃ X, X = World.setRow x21 (V.heap.size) (clC r m i (.slice XA lx xc) (.slice P k pc)) := ⟨_, rfl⟩
  rw [← hx]
  have BX : Below w7.heap.size w7 x22 := by rw [hx]; exact below_setRow' HBX.out hge _
  have M := Lib.hid (show TmS w x22 gt g11 V.heap.size kd aa bb (some ⟨pg, po, none⟩) q r (clC r m i (.slice XA lx xc) (.slice P k pc)) from ⟨HL7.out.1.below BX HL7.out.1.lt, HL7.out.2.1.below BX HL7.out.2.1.lt, HL7.out.2.2.2.2.2.below BX HL7.out.2.2.2.2.2.lt, by rw [hx]; exact E.out.setRow _, HL7.out.2.2.1.below BX, HL7.out.2.2.2.1.step BX⟩)
  clear hx s1 E HBX
  go_wp2_with fail
  refine hK2.out _ _ ?_
  clear hK2 K2
  change Exit.then _ _ _ _ _
  clear HV0 hge
  generalize V.heap.size = g13 at *
  have Y0 := Lib.hid (And.intro (rw_step0 HXL.out.2.2.1 BX) (HL7.out.2.2.2.2.1.below BX))
  clear BX HL7 c1 c1' l1 l1' hb87
  have l87 := load87_run M.out.x hr32
  have y0 := M.out.c.cell 0
  have y1 := M.out.c.cell 1
  have y2 := M.out.c.cell 2
  simp only [List.getElem?_toArray, List.getElem?_cons_zero, List.getElem?_cons_succ] at y0 y1 y2
  go_wp2_with fail
  refine (changed_any _ r hr32 HPD.out.2.2.2 m i xl XA lx xc HXL.out.1 (by omega) c2 HXL.out.2.1 Y0.out.1 pf P k pc HK.out (by omega) HPD.out.1 Y0.out.2 HPD.out.2.2.1 kd aa bb hkd haa hbb).mono ?_
  rintro e w9 ⟨yr, yn, yi, leaf, L, la, lc, qs, YP, ky, yc, rfl, q1, q2, q3, q4, q5, q6, q7, q8, q9, q10, q11, q12, q13, q14, q15, B9⟩
  have HY := Lib.hid (And.intro q1 (And.intro q2 (And.intro q3 (And.intro q6 (And.intro q8 q12)))))
  have hla4 := q4
  have hla5 := q5
  have hky := q9
  have hyc := q10
  have hky1 := q11
  have M9 := Lib.hid (And.intro (M.out.step B9) (And.intro q7 (And.intro q13 (And.intro (Y0.out.1.below B9) (Y0.out.2.below B9)))))
  clear q1 q2 q3 q4 q5 q6 q7 q8 q9 q10 q11 q12 q13 q14 q15 B9 M Y0 l87 y0 y1 y2
  go_upto_region 14 with (refine wpList_fillM rfl 87 (.tmp 14) (.tmp 63) rfl (clC yr yn yi (.slice L la lc) (.slice YP ky yc)) rfl rfl (size87 _ (clC_size _ HY.out.1 _ _ _ _)) (by rw [clC_size _ HY.out.1]; rfl) (clC_one _ _ _ _ _ _ _ _ _) ?_; intro w10 E10 B10; have H10 := Lib.hid (And.intro E10 B10); clear E10 B10)
  have M := Lib.hid (M9.out.1.step H10.out.2)
  have Y := Lib.hid (show TmY w10 w9.heap.size (clC yr yn yi (.slice L la lc) (.slice YP ky yc)) L lc leaf YP qs XA xc xl P pf from ⟨H10.out.1, M9.out.2.1.below H10.out.2, M9.out.2.2.1.below H10.out.2, M9.out.2.2.2.1.below H10.out.2, M9.out.2.2.2.2.below H10.out.2⟩)
  clear M9 H10
  generalize w9.heap.size = g14 at *
  have lr := load87_root Y.out.y HY.out.1
  have f32 := (Y.out.y.cell 32).trans (clC_32 yr HY.out.1 yn yi _ _)
  have f33 := (Y.out.y.cell 33).trans (clC_33 yr HY.out.1 yn yi _ _)
  have f34 := (Y.out.y.cell 34).trans (clC_34 yr HY.out.1 yn yi (.slice L la lc) (.slice YP ky yc))
  have f35 := (Y.out.y.cell 35).trans (clC_35 yr HY.out.1 yn yi (.slice L la lc) (.slice YP ky yc))
  go_wp2_with fail
  refine (mverify_all _ M.out.a.t yr HY.out.1 yn yi leaf L la lc HY.out.2.2.1 hla4 (by omega) HY.out.2.2.2.1 Y.out.l qs YP ky yc HY.out.2.2.2.2.1 (by omega) HY.out.2.2.2.2.2 Y.out.p).mono ?_
  rintro e w11 ⟨rfl, B11⟩
  have M2 := Lib.hid (M.out.step B11)
  have Y2 := Lib.hid (Y.out.step B11)
  clear B11 M Y lr f32 f33 f34 f35
  go_upto_region 15 with (fail)
  have M := Lib.hid (M2.out.step (Below.refl _ _).drew)
  have Y := Lib.hid (Y2.out.step (Below.refl _ _).drew)
  clear M2 Y2
  have lt := load32_run M.out.t
  have lr := load87_root Y.out.y HY.out.1
  have f32 := (Y.out.y.cell 32).trans (clC_32 yr HY.out.1 yn yi _ _)
  have f33 := (Y.out.y.cell 33).trans (clC_33 yr HY.out.1 yn yi _ _)
  have f34 := (Y.out.y.cell 34).trans (clC_34 yr HY.out.1 yn yi (.slice L la lc) (.slice YP ky yc))
  have f35 := (Y.out.y.cell 35).trans (clC_35 yr HY.out.1 yn yi (.slice L la lc) (.slice YP ky yc))
  refine wp_region_pv (.still [true, false, false, false, false, false, false, false, false, false, false, false, false, false, false] (.look [false, true, true, true, true, true, true, true, true, true, true, true, false, false, false] (.act [false, false, false, false, false, false, false, false, false, false, false, false, true, false, false] (.act [false, false, false, false, false, false, false, false, false, false, false, false, false, true, false] (.look [false, false, false, false, false, false, false, false, false, false, false, false, false, false, true] .stop))))) (by kernel_rfl) (by kernel_rfl) (fun _ _ d _ _ h => by cases d <;> exact h) ?_
  generalize w11.drew = V at *
  refine sv_still fun K0 hK0 => ?_
  simp only [pickM]
  go_wp2_with fail
  refine hK0.out _ ?_
  clear hK0 K0
  refine sv_look fun K0 hK0 => ?_
  simp only [pickM]
  go_wp2_with fail
  refine hK0.out _ ?_
  clear hK0 K0
  refine sv_act fun K2 hK2 => ?_
  simp only [pickM]
  go_wp2_with fail
  refine (to_any _ qs YP ky yc HY.out.2.2.2.2.1 HY.out.2.2.2.2.2 (by omega) Y.out.p).mono ?_
  rintro e x31 ⟨TA, tc, rfl, OT, hBelow⟩
  have M := Lib.hid (M.out.step hBelow)
  have Y := Lib.hid (Y.out.step hBelow)
  have HT := Lib.hid (And.intro OT.lv OT.cap')
  clear OT
  go_wp2_with fail
  have hsx31 := Lib.hid (show Sof (some V) x31 from hBelow)
  refine hK2.out _ _ hsx31.out ?_
  clear hK2 K2 hBelow
  refine sv_act fun K2 hK2 => ?_
  simp only [pickM]
  go_wp2_with fail
  refine (rverify_all _ yr HY.out.1 yn yi leaf L la lc HY.out.2.2.1 hla4 (by omega) HY.out.2.2.2.1 Y.out.l qs TA ky tc HY.out.2.2.2.2.1 (by omega) HT.out.2.1 (by have := HT.out.2.2; unfold maxLen at this; omega) HY.out.2.2.2.2.2 HT.out.1).mono ?_
  rintro e x32 ⟨rfl, hBelow⟩
  have M := Lib.hid (M.out.step hBelow)
  have Y := Lib.hid (Y.out.step hBelow)
  clear HT
  go_wp2_with fail
  have hsx32 := Lib.hid (Sof.step hsx31.out hBelow)
  refine hK2.out _ _ hsx32.out ?_
  clear hK2 K2 hBelow
  refine sv_look fun K0 hK0 => ?_
  simp only [pickM]
  go_wp2_with fail
  refine hK0.out _ ?_
  clear hK0 K0
  change Exit.then _ _ _ _ _
  clear lt lr f32 f33 f34 f35
  go_upto_region 17 with (fail)
  go_cut [16] (fun v wx => v = .bool (sameB xl leaf pf qs) ∧ TmS w wx gt g11 g13 kd aa bb (some ⟨pg, po, none⟩) q r (clC r m i (.slice XA lx xc) (.slice P k pc)) ∧ TmY wx g14 (clC yr yn yi (.slice L la lc) (.slice YP ky yc)) L lc leaf YP qs XA xc xl P pf)
  case first =>
    by_cases e1 : xl = leaf
    · have HE1 := Lib.hid e1
      clear e1
      have M := Lib.hid (M.out.step (Below.refl _ _).drew)
      have Y := Lib.hid (Y.out.step (Below.refl _ _).drew)
      have f34 := (Y.out.y.cell 34).trans (clC_34 yr HY.out.1 yn yi (.slice L la lc) (.slice YP ky yc))
      have f35 := (Y.out.y.cell 35).trans (clC_35 yr HY.out.1 yn yi (.slice L la lc) (.slice YP ky yc))
      have x34 := (M.out.x.cell 34).trans (clC_34 r hr32 m i (.slice XA lx xc) (.slice P k pc))
      have x35 := (M.out.x.cell 35).trans (clC_35 r hr32 m i (.slice XA lx xc) (.slice P k pc))
      have v1 := convert_rw _ XA xc xl lx HXL.out.1 HXL.out.2.1 Y.out.xl
      have v2 := convert_rw _ L lc leaf la HY.out.2.2.1 HY.out.2.2.2.1 Y.out.l
      have hse := strOf_eq xl leaf HXL.out.2.1 HY.out.2.2.2.1
      rw [decide_eq_true HE1.out] at hse
      generalize strOf xl = sx at *
      generalize strOf leaf = sy at *
      refine wp_region_pv (.look [true, true, true, true, true, true, true, true, true, true, false, true, true, false, false, false, false] (.act [false, false, false, false, false, false, false, false, false, false, true, false, false, false, false, false, false] (.last [false, false, false, false, false, false, false, false, false, false, false, false, false, true, false, false, false] (.last [false, false, false, false, false, false, false, false, false, false, false, false, false, false, true, false, false] (.still [false, false, false, false, false, false, false, false, false, false, false, false, false, false, false, true, true] .stop))))) (by kernel_rfl) (by kernel_rfl) (fun _ _ d _ _ h => by cases d <;> exact h) ?_
      generalize World.drew _ = V at *
      refine sv_look fun K0 hK0 => ?_
      simp only [pickM]
      go_wp2_with fail
      refine hK0.out _ ?_
      clear hK0 K0
      refine sv_act fun K2 hK2 => ?_
      simp only [pickM]
      go_wp2_with fail
      refine (to_any _ pf P k pc HK.out HPD.out.1 (by omega) Y.out.xp).mono ?_
      rintro e x41 ⟨TA, tc, rfl, OT, hBelow⟩
      have M := Lib.hid (M.out.step hBelow)
      have Y := Lib.hid (Y.out.step hBelow)
      have HT1 := Lib.hid OT.lv
      clear OT
      go_wp2_with fail
      have hsx41 := Lib.hid (show Sof (some V) x41 from hBelow)
      refine hK2.out _ _ hsx41.out ?_
      clear hK2 K2 hBelow
      refine sv_last fun K2 hK2 => ?_
      simp only [pickM]
      go_wp2_with fail
      refine (to_any _ qs YP ky yc HY.out.2.2.2.2.1 HY.out.2.2.2.2.2 (by omega) Y.out.p).mono ?_
      rintro e x42 ⟨TB, td, rfl, OT, hBelow⟩
      have M := Lib.hid (M.out.step hBelow)
      have Y := Lib.hid (Y.out.step hBelow)
      have HT1 := Lib.hid (HT1.out.below hBelow)
      have HT2 := Lib.hid OT.lv
      clear OT
      go_wp2_with fail
      refine hK2.out _ _ ?_
      clear hK2 K2 hBelow
      refine sv_last fun K2 hK2 => ?_
      simp only [pickM]
      go_wp2_with fail
      refine (same_any _ pf qs TA TB k ky tc td HK.out HY.out.2.2.2.2.1 HPD.out.1 HY.out.2.2.2.2.2 (by omega) (by omega) HT1.out HT2.out).mono ?_
      rintro e x43 ⟨rfl, hBelow⟩
      have M := Lib.hid (M.out.step hBelow)
      have Y := Lib.hid (Y.out.step hBelow)
      clear HT1 HT2
      go_wp2_with fail
      refine hK2.out _ _ ?_
      clear hK2 K2 hBelow
      refine sv_still fun K0 hK0 => ?_
      simp only [pickM]
      go_wp2_with fail
      refine hK0.out _ ?_
      clear hK0 K0
      change Exit.then _ _ _ _ _
      go_wp2_with fail
      go_meet
      exact ⟨by simp [sameB, HE1.out], M.out, Y.out⟩
    · have HE1 := Lib.hid e1
      clear e1
      have M := Lib.hid (M.out.step (Below.refl _ _).drew)
      have Y := Lib.hid (Y.out.step (Below.refl _ _).drew)
      have f34 := (Y.out.y.cell 34).trans (clC_34 yr HY.out.1 yn yi (.slice L la lc) (.slice YP ky yc))
      have f35 := (Y.out.y.cell 35).trans (clC_35 yr HY.out.1 yn yi (.slice L la lc) (.slice YP ky yc))
      have x34 := (M.out.x.cell 34).trans (clC_34 r hr32 m i (.slice XA lx xc) (.slice P k pc))
      have x35 := (M.out.x.cell 35).trans (clC_35 r hr32 m i (.slice XA lx xc) (.slice P k pc))
      have v1 := convert_rw _ XA xc xl lx HXL.out.1 HXL.out.2.1 Y.out.xl
      have v2 := convert_rw _ L lc leaf la HY.out.2.2.1 HY.out.2.2.2.1 Y.out.l
      have hse := strOf_eq xl leaf HXL.out.2.1 HY.out.2.2.2.1
      rw [decide_eq_false HE1.out] at hse
      generalize strOf xl = sx at *
      generalize strOf leaf = sy at *
      refine wp_region_pv (.look [true, true, true, true, true, true, true, true, true, true, false, true, true, false, false, false, false] (.act [false, false, false, false, false, false, false, false, false, false, true, false, false, false, false, false, false] (.last [false, false, false, false, false, false, false, false, false, false, false, false, false, true, false, false, false] (.last [false, false, false, false, false, false, false, false, false, false, false, false, false, false, true, false, false] (.still [false, false, false, false, false, false, false, false, false, false, false, false, false, false, false, true, true] .stop))))) (by kernel_rfl) (by kernel_rfl) (fun _ _ d _ _ h => by cases d <;> exact h) ?_
      generalize World.drew _ = V at *
      refine sv_look fun K0 hK0 => ?_
      simp only [pickM]
      go_wp2_with fail
      refine hK0.out _ ?_
      clear hK0 K0
      refine sv_act fun K2 hK2 => ?_
      simp only [pickM]
      go_wp2_with fail
      have hBelow : Below V.heap.size V V := Below.refl _ _
      go_wp2_with fail
      have hsV := Lib.hid (show Sof (some V) V from hBelow)
      refine hK2.out _ _ hsV.out ?_
      clear hK2 K2 hBelow
      refine sv_last fun K2 hK2 => ?_
      simp only [pickM]
      go_wp2_with fail
      have hBelow : Below V.heap.size V V := Below.refl _ _
      go_wp2_with fail
      refine hK2.out _ _ ?_
      clear hK2 K2 hBelow
      refine sv_last fun K2 hK2 => ?_
      simp only [pickM]
      go_wp2_with fail
      have hBelow : Below V.heap.size V V := Below.refl _ _
      go_wp2_with fail
      refine hK2.out _ _ ?_
      clear hK2 K2 hBelow
      refine sv_still fun K0 hK0 => ?_
      simp only [pickM]
      go_wp2_with fail
      refine hK0.out _ ?_
      clear hK0 K0
      change Exit.then _ _ _ _ _
      go_wp2_with fail
      go_meet
      exact ⟨by simp [sameB, HE1.out], M.out, Y.out⟩
  case rest =>
  obtain ⟨rfl, M0, Y0⟩ := hcut
  have M := Lib.hid M0
  have Y := Lib.hid Y0
  clear M0 Y0
  have lr := load25_run M.out.r hr32
  have f34 := (Y.out.y.cell 34).trans (clC_34 yr HY.out.1 yn yi (.slice L la lc) (.slice YP ky yc))
  have f35 := (Y.out.y.cell 35).trans (clC_35 yr HY.out.1 yn yi (.slice L la lc) (.slice YP ky yc))
  have x34 := (M.out.x.cell 34).trans (clC_34 r hr32 m i (.slice XA lx xc) (.slice P k pc))
  have x35 := (M.out.x.cell 35).trans (clC_35 r hr32 m i (.slice XA lx xc) (.slice P k pc))
  by_cases vb : verifyL r m i leaf qs = 0
  · by_cases hs : xl = leaf ∧ pf = qs
    · rw [show sameB xl leaf pf qs = true by simp [sameB, hs]]
      have HC := Lib.hid (mcol_yes _ M.out.a.t r hr32 m i (by omega) (by omega) hi xl XA lx xc HXL.out.1 c2 (by omega) HXL.out.2.1 Y.out.xl pf P k pc HK.out (by omega) HPD.out.1 Y.out.xp leaf L la lc HY.out.2.2.1 hla4 (by omega) HY.out.2.2.2.1 Y.out.l qs YP ky yc HY.out.2.2.2.2.1 (by omega) HY.out.2.2.2.2.2 Y.out.p HXL.out.2.2.2 vb)
      have HVB := Lib.hid (And.intro vb hs)
      clear vb hs
      go_wp2_with fail
      refine HC.out.mono ?_
      rintro e w20 ⟨⟨h1, h2⟩, hBelow⟩
      obtain rfl := h1 HVB.out.2
      clear h1 h2 HC lr f34 f35 x34 x35
      have M := Lib.hid (M.out.step hBelow)
      have Y := Lib.hid (Y.out.step hBelow)
      clear hBelow
      have lr := load25_run M.out.r hr32
      have f34 := (Y.out.y.cell 34).trans (clC_34 yr HY.out.1 yn yi (.slice L la lc) (.slice YP ky yc))
      have f35 := (Y.out.y.cell 35).trans (clC_35 yr HY.out.1 yn yi (.slice L la lc) (.slice YP ky yc))
      have HV9 := Lib.hid (mverify_any w20 M.out.a.t r hr32 m i (by omega) (by omega) hi leaf L la lc HY.out.2.2.1 hla4 (by omega) HY.out.2.2.2.1 Y.out.l qs YP ky yc HY.out.2.2.2.2.1 (by omega) HY.out.2.2.2.2.2 Y.out.p)
      rw [HVB.out.1] at HV9
      go_wp2_with fail
      refine HV9.out.mono ?_
      rintro e w21 ⟨rfl, hBelow⟩
      have M := Lib.hid (M.out.step hBelow)
      clear hBelow HV9 lr f34 f35
      go_wp2_with fail
      go_ret
      exact ⟨rfl, M.out.a.b⟩
    · rw [show sameB xl leaf pf qs = false by simp only [sameB, decide_eq_false_iff_not]; exact hs]
      have HC := Lib.hid (mcol_yes _ M.out.a.t r hr32 m i (by omega) (by omega) hi xl XA lx xc HXL.out.1 c2 (by omega) HXL.out.2.1 Y.out.xl pf P k pc HK.out (by omega) HPD.out.1 Y.out.xp leaf L la lc HY.out.2.2.1 hla4 (by omega) HY.out.2.2.2.1 Y.out.l qs YP ky yc HY.out.2.2.2.2.1 (by omega) HY.out.2.2.2.2.2 Y.out.p HXL.out.2.2.2 vb)
      have HVB := Lib.hid (And.intro vb hs)
      clear vb hs
      go_wp2_with fail
      refine HC.out.mono ?_
      rintro e w20 ⟨⟨h1, h2⟩, hBelow⟩
      obtain ⟨u, v, U, V, cu, cv, rfl, p1, p2, p3, p4, p5, p6, p7, p8, p9, p10⟩ := h2 HVB.out.2
      clear h1 h2 HC lr f34 f35 x34 x35
      have M := Lib.hid (M.out.step hBelow)
      have Y := Lib.hid (Y.out.step hBelow)
      clear hBelow
      have HU := Lib.hid (And.intro p1 (And.intro p2 (And.intro p3 (And.intro p4 (And.intro p9 p10)))))
      clear p1 p2 p3 p4 p9 p10
      obtain ⟨lu, hlu⟩ : ∃ lu, u.length = lu := ⟨_, rfl⟩
      obtain ⟨lv, hlv⟩ : ∃ lv, v.length = lv := ⟨_, rfl⟩
      rw [hlu] at p5 p7 ⊢
      rw [hlv] at p6 p8 ⊢
      have HLU := Lib.hid (And.intro hlu hlv)
      clear hlu hlv
      have lr := load25_run M.out.r hr32
      have f34 := (Y.out.y.cell 34).trans (clC_34 yr HY.out.1 yn yi (.slice L la lc) (.slice YP ky yc))
      have f35 := (Y.out.y.cell 35).trans (clC_35 yr HY.out.1 yn yi (.slice L la lc) (.slice YP ky yc))
      have HV9 := Lib.hid (mverify_any w20 M.out.a.t r hr32 m i (by omega) (by omega) hi leaf L la lc HY.out.2.2.1 hla4 (by omega) HY.out.2.2.2.1 Y.out.l qs YP ky yc HY.out.2.2.2.2.1 (by omega) HY.out.2.2.2.2.2 Y.out.p)
      rw [HVB.out.1] at HV9
      go_wp2_with fail
      refine HV9.out.mono ?_
      rintro e w21 ⟨rfl, hBelow⟩
      have M := Lib.hid (M.out.step hBelow)
      have HR := Lib.hid (And.intro (HU.out.2.2.2.2.1.below hBelow) (HU.out.2.2.2.2.2.below hBelow))
      clear hBelow HV9 lr f34 f35
      have v1 := convert_rw _ U cu u lu HLU.out.1 HU.out.2.2.1 HR.out.1
      have v2 := convert_rw _ V cv v lv HLU.out.2 HU.out.2.2.2.1 HR.out.2
      have hse := strOf_eq u v HU.out.2.2.1 HU.out.2.2.2.1
      rw [decide_eq_false HU.out.1] at hse
      have hsn : ((strOf u).toList != (strOf v).toList) = true := by unfold bne; rw [hse]; rfl
      have HS1 := Lib.hid (fun W (t : At w W) (s : RW W U cu u) => sum_any W t.t u U cu (by rw [HLU.out.1]; exact p5) HU.out.2.2.1 (s.rb (Nat.le_refl _)) (by rw [HLU.out.1]; omega))
      have HS2 := Lib.hid (fun W (t : At w W) (s : RW W V cv v) => sum_any W t.t v V cv (by rw [HLU.out.2]; exact p6) HU.out.2.2.2.1 (s.rb (Nat.le_refl _)) (by rw [HLU.out.2]; omega))
      rw [HLU.out.1] at HS1
      rw [HLU.out.2, ← HU.out.2.1] at HS2
      have hsl : (sha u).length = 32 := sha_length _
      have q1 := fun W => run_equalIn_dig W (sha u) (sha u) hsl hsl
      rw [decide_eq_true (rfl : sha u = sha u)] at q1
      generalize sha u = su at *
      generalize strOf u = sx at *
      generalize strOf v = sy at *
      go_wp2_with fail
      refine (HS1.out _ M.out.a HR.out.1).mono ?_
      rintro e w22 ⟨rfl, hBelow⟩
      have M := Lib.hid (M.out.step hBelow)
      have HR := Lib.hid (And.intro (HR.out.1.below hBelow) (HR.out.2.below hBelow))
      clear hBelow v1 v2
      go_wp2_with fail
      refine (HS2.out _ M.out.a HR.out.2).mono ?_
      rintro e w23 ⟨rfl, hBelow⟩
      have M := Lib.hid (M.out.step hBelow)
      clear hBelow
      go_wp2_with fail
      go_ret
      exact ⟨rfl, M.out.a.b⟩
  · have HC := Lib.hid (mcol_no _ M.out.a.t r hr32 m i (by omega) (by omega) hi xl XA lx xc HXL.out.1 c2 (by omega) HXL.out.2.1 Y.out.xl pf P k pc HK.out (by omega) HPD.out.1 Y.out.xp leaf L la lc HY.out.2.2.1 hla4 (by omega) HY.out.2.2.2.1 Y.out.l qs YP ky yc HY.out.2.2.2.2.1 (by omega) HY.out.2.2.2.2.2 Y.out.p HXL.out.2.2.2 vb)
    obtain ⟨V0, hV0⟩ : ∃ V0, verifyL r m i leaf qs = V0 := ⟨_, rfl⟩
    rw [hV0] at HC vb
    have tv : ((V0 : Int) != 0) = true := by rw [bne_iff_ne]; exact vb
    have HV0 := Lib.hid hV0
    clear vb hV0
    go_wp2_with fail
    refine HC.out.mono ?_
    rintro e w20 ⟨rfl, hBelow⟩
    clear HC lr f34 f35 x34 x35
    have M := Lib.hid (M.out.step hBelow)
    have Y := Lib.hid (Y.out.step hBelow)
    clear hBelow
    have lr := load25_run M.out.r hr32
    have f34 := (Y.out.y.cell 34).trans (clC_34 yr HY.out.1 yn yi (.slice L la lc) (.slice YP ky yc))
    have f35 := (Y.out.y.cell 35).trans (clC_35 yr HY.out.1 yn yi (.slice L la lc) (.slice YP ky yc))
    have HV9 := Lib.hid (mverify_any w20 M.out.a.t r hr32 m i (by omega) (by omega) hi leaf L la lc HY.out.2.2.1 hla4 (by omega) HY.out.2.2.2.1 Y.out.l qs YP ky yc HY.out.2.2.2.2.1 (by omega) HY.out.2.2.2.2.2 Y.out.p)
    rw [HV0.out] at HV9
    go_wp2_with fail
    refine HV9.out.mono ?_
    rintro e w21 ⟨rfl, hBelow⟩
    have M := Lib.hid (M.out.step hBelow)
    clear hBelow HV9 lr f34 f35
    go_wp2_with fail
    go_ret
    exact ⟨rfl, M.out.a.b⟩
end Go.Proofs.YtediocpdpghbfaaDoor
