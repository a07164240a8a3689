/- The law of Clone: the walk. -/
import Derived.Test.YtediocpdpghbfaaDoorLlen
import Derived.Test.YtediocpdpghbfaaDoorRegt
set_option linter.unusedSimpArgs false
set_option linter.unusedVariables false
namespace Go.Proofs.YtediocpdpghbfaaDoor
open Go Go.RowKit

def zer32 : List Nat := List.replicate 32 0
theorem zer32_length : zer32.length = 32 := rfl
theorem eq_zer_lit (W : World) : (Op.equalIn 10000 25 (.agg (u8s zer32)) (.agg #[.int .u8 0, .int .u8 0, .int .u8 0, .int .u8 0, .int .u8 0, .int .u8 0, .int .u8 0, .int .u8 0, .int .u8 0, .int .u8 0, .int .u8 0, .int .u8 0, .int .u8 0, .int .u8 0, .int .u8 0, .int .u8 0, .int .u8 0, .int .u8 0, .int .u8 0, .int .u8 0, .int .u8 0, .int .u8 0, .int .u8 0, .int .u8 0, .int .u8 0, .int .u8 0, .int .u8 0, .int .u8 0, .int .u8 0, .int .u8 0, .int .u8 0, .int .u8 0])).run Tryd.prog W = .ok true W := by
  have h := run_equalIn_dig W zer32 zer32 zer32_length zer32_length
  have e : (u8s zer32) = #[.int .u8 0, .int .u8 0, .int .u8 0, .int .u8 0, .int .u8 0, .int .u8 0, .int .u8 0, .int .u8 0, .int .u8 0, .int .u8 0, .int .u8 0, .int .u8 0, .int .u8 0, .int .u8 0, .int .u8 0, .int .u8 0, .int .u8 0, .int .u8 0, .int .u8 0, .int .u8 0, .int .u8 0, .int .u8 0, .int .u8 0, .int .u8 0, .int .u8 0, .int .u8 0, .int .u8 0, .int .u8 0, .int .u8 0, .int .u8 0, .int .u8 0, .int .u8 0] := by rfl
  rw [decide_eq_true rfl] at h
  rw [← e]
  exact h
theorem msum_zer (w : World) : Calls Tryd.prog 28 #[.pointer none] w fun e w' => e = .returned (.agg (u8s zer32)) ∧ Below w.heap.size w w' := msum_nil w
/-- W is a later world of w, in which the package's tables lie -/
structure At (w W : World) : Prop where
  t0 : Tabs w
  b : Below w.heap.size w W
theorem At.t {w W : World} (h : At w W) : Tabs W := h.t0.below h.b h.t0.two
theorem At.le {w W : World} (h : At w W) : w.heap.size ≤ W.heap.size := h.b.size
theorem At.step {w W W' : World} (h : At w W) (b : Below W.heap.size W W') : At w W' := ⟨h.t0, h.b.trans (b.mono h.b.size)⟩
theorem At.drew {w W : World} (h : At w W) : At w W.drew := ⟨h.t0, h.b.drew⟩
theorem At.grown {w W W' : World} {g : Nat} (h : At w W) (hg : W.grownBy W' (some g)) (hw : w.heap.size ≤ g) : At w W' :=
  ⟨h.t0, h.b.grown hg h.b.size (fun k hk => by injection hk with hk; omega)⟩
theorem OB.cap_le {w : World} {base : Nat} {A : Option Addr} {n cap : Nat} {l : List Nat} (h : OB w base A n cap l) : n ≤ cap := by
  obtain ⟨_, h⟩ := h
  rcases h.2 with ⟨hv, hx⟩ | ⟨g, cap', cur, hv, _, _, hle, _⟩
  · injection hv with _ e2 e3; omega
  · injection hv with _ _ e3; omega
theorem wpList_unguard {P : Program} {ops : Array Oper} {Q : Exit → Act → World → Prop} {o : Oper} {rest : List Oper} {a : Act} {w : World} (hw : Region.wanted o (yielded ops a.tmps) = true)
    (h : wpList P ops Q ({ o with guard := none } :: rest) a w) : wpList P ops Q (o :: rest) a w := by
  unfold wpList at h ⊢
  rw [if_pos hw]
  have hn : Region.wanted { o with guard := none } (yielded ops a.tmps) = true := rfl
  rw [if_pos hn] at h
  exact h
set_option maxRecDepth 100000 in
set_option maxHeartbeats 1000000 in
theorem law_clone (w : World) (hT : Tabs w) (a b c : List Nat) (A B C : Option Addr) (ca cb cc : Nat) (na nb nc : Nat) (la : a.length = na) (lb : b.length = nb) (lc : c.length = nc)
    (ha : na ≤ ca) (hb : nb ≤ cb) (hc : nc ≤ cc) (hBa : Bytes a) (hBb : Bytes b) (hBc : Bytes c) (hra : RW w A ca a) (hrb : RW w B cb b) (hrc : RW w C cc c) :
    Calls Tryd.prog 9 #[.slice A na ca, .slice B nb cb, .slice C nc cc] w fun e w' => e = .returned (.bool true) ∧ Below w.heap.size w w' := by
  have two := hT.two
  have H0 := Lib.hid (And.intro hT (And.intro la (And.intro lb (And.intro lc (And.intro hBa (And.intro hBb (And.intro hBc (And.intro hra (And.intro hrb hrc)))))))))
  clear hT la lb lc hBa hBb hBc hra hrb hrc
  have hzz := eq_zer_lit
  go_enter Tryd.func9, Tryd.ntmps9
  go_wp2_with fail
  refine (write_nil _ _).mono ?_
  rintro e w1 ⟨rfl, rfl⟩
  go_wp2_with fail
  refine (msum_zer _).mono ?_
  rintro e w2 ⟨rfl, B2⟩
  have T2 := H0.out.1.below B2 two
  have H2 := Lib.hid (And.intro B2 T2); clear B2 T2
  go_wp2_with fail
  refine (len_nil _).mono ?_
  rintro e w3 ⟨rfl, rfl⟩
  go_wp2_with fail
  refine (clone_nil _).mono ?_
  rintro e w4 ⟨rfl, rfl⟩
  clear hzz
  by_cases hbig : 500 < na ∨ 500 < nb ∨ 500 < nc
  · have tb : (if (if (500 : Int) < (na : Int) then true else decide ((500 : Int) < (nb : Int))) = true then true else decide ((500 : Int) < (nc : Int))) = true := by
      rcases hbig with h | h | h <;> simp <;> omega
    go_wp2_with fail
    all_goals
      refine (known_any _ H2.out.2).mono ?_
      rintro e w20 ⟨rfl, B20⟩
      have H20 := Lib.hid B20
      clear B20
      go_wp2_with fail
      go_ret
      exact ⟨rfl, H2.out.1.trans (H20.out.mono H2.out.1.size)⟩
  · have q1 : na ≤ 500 := by omega
    have q2 : nb ≤ 500 := by omega
    have q3 : nc ≤ 500 := by omega
    clear hbig
    go_wp2_with fail
    refine (new_any _ H2.out.2).mono ?_
    rintro e w5 ⟨rfl, h5, B5⟩
    have s5 : At w w5 := ⟨H0.out.1, H2.out.1.trans (B5.mono H2.out.1.size)⟩
    have g1w : w.heap.size ≤ w2.heap.size := H2.out.1.size
    generalize w2.heap.size = g1 at *
    have H5 := Lib.hid (And.intro h5 s5)
    clear h5 B5 s5 H2
    have hw6 := write_any w5 H5.out.2.t g1 (by omega) [] a H5.out.1 A ca (by rw [H0.out.2.1]; exact ha) H0.out.2.2.2.2.1 ((H0.out.2.2.2.2.2.2.2.1.rb (Nat.le_refl _)).move H5.out.2.b g1w) (by rw [H0.out.2.1]; simp; omega)
    rw [H0.out.2.1, List.nil_append] at hw6
    go_wp2_with fail
    refine hw6.mono ?_
    clear hw6
    rintro e w6 ⟨rfl, h6, G6⟩
    have s6 := H5.out.2.grown G6 g1w
    have H6 := Lib.hid (And.intro h6 s6)
    clear G6 h6 s6 H5
    go_wp2_with fail
    refine (clone_any w6 g1 a H6.out.1).mono ?_
    rintro e w7 ⟨rfl, h7, B7⟩
    have s7 := H6.out.2.step B7
    have g12 : g1 < w6.heap.size := H6.out.1.lt
    have k7 := H6.out.1.below B7 g12
    generalize w6.heap.size = g2 at *
    have H7 := Lib.hid (And.intro h7 (And.intro k7 s7))
    clear h7 k7 s7 B7 H6
    go_wp2_with fail
    have ld := sha_length a
    have HS := Lib.hid (fun W g (h : IsHash W g a) (s : At w W) => msum_any W s.t g a h (by rw [H0.out.2.1]; omega))
    have HL := Lib.hid (fun W g (h : IsHash W g a) => len_any W g a h)
    rw [H0.out.2.1] at HL
    generalize sha a = d at *
    have eqd := fun W => run_equalIn_dig W d d ld ld
    have hdec : decide (d = d) = true := by simp
    refine (HS.out _ _ H7.out.1 H7.out.2.2).mono ?_
    rintro e w8 ⟨rfl, B8⟩
    have H8 := Lib.hid (And.intro (H7.out.1.below B8 H7.out.1.lt) (And.intro (H7.out.2.1.below B8 H7.out.2.1.lt) (H7.out.2.2.step B8)))
    clear B8 H7
    go_wp2_with fail
    refine (HS.out _ _ H8.out.2.1 H8.out.2.2).mono ?_
    rintro e w9 ⟨rfl, B9⟩
    have H9 := Lib.hid (And.intro (H8.out.1.below B9 H8.out.1.lt) (And.intro (H8.out.2.1.below B9 H8.out.2.1.lt) (H8.out.2.2.step B9)))
    clear B9 H8
    go_wp2_with fail
    refine (HL.out _ _ H9.out.1).mono ?_
    rintro e w10 ⟨rfl, rfl⟩
    go_wp2_with fail
    refine (HL.out _ _ H9.out.2.1).mono ?_
    rintro e w10 ⟨rfl, rfl⟩
    clear eqd HS HL hdec
    go_wp2_with fail
    have hwb := write_any w9 H9.out.2.2.t g1 (by omega) a b H9.out.2.1 B cb (by rw [H0.out.2.2.1]; exact hb) H0.out.2.2.2.2.2.1 ((H0.out.2.2.2.2.2.2.2.2.1.rb (Nat.le_refl _)).move H9.out.2.2.b g1w) (by rw [H0.out.2.1, H0.out.2.2.1]; omega)
    rw [H0.out.2.2.1] at hwb
    refine hwb.mono ?_
    clear hwb
    rintro e w10 ⟨rfl, h10, G10⟩
    have H10 := Lib.hid (And.intro h10 (And.intro (H9.out.1.grown G10 (by intro e; injection e; omega)) (H9.out.2.2.grown G10 g1w)))
    clear h10 G10 H9
    go_wp2_with fail
    have hwc := write_any w10 H10.out.2.2.t g2 (by omega) a c H10.out.2.1 C cc (by rw [H0.out.2.2.2.1]; exact hc) H0.out.2.2.2.2.2.2.1 ((H0.out.2.2.2.2.2.2.2.2.2.rb (Nat.le_refl _)).move H10.out.2.2.b (by omega)) (by rw [H0.out.2.1, H0.out.2.2.2.1]; omega)
    rw [H0.out.2.2.2.1] at hwc
    refine hwc.mono ?_
    clear hwc
    rintro e w11 ⟨rfl, h11, G11⟩
    have H11 := Lib.hid (And.intro h11 (And.intro (H10.out.1.grown G11 (by intro e; injection e; omega)) (H10.out.2.2.grown G11 (by omega))))
    clear h11 G11 H10
    go_wp2_with fail
    have ld1 := sha_length (a ++ b)
    have ld2 := sha_length (a ++ c)
    have lab : (a ++ b).length = na + nb := by rw [List.length_append, H0.out.2.1, H0.out.2.2.1]
    have lac : (a ++ c).length = na + nc := by rw [List.length_append, H0.out.2.1, H0.out.2.2.2.1]
    have HS1 := Lib.hid (fun W (h : IsHash W g1 (a ++ b)) (s : At w W) => msum_any W s.t g1 (a ++ b) h (by rw [lab]; omega))
    have HS2 := Lib.hid (fun W (h : IsHash W g2 (a ++ c)) (s : At w W) => msum_any W s.t g2 (a ++ c) h (by rw [lac]; omega))
    have HT1 := Lib.hid (fun W (s : At w W) Z cz (hz : na + nb ≤ cz) (hr : RW W Z cz (a ++ b)) => sum_any W s.t (a ++ b) Z cz (by rw [lab]; exact hz) (H0.out.2.2.2.2.1.append H0.out.2.2.2.2.2.1) (hr.rb (Nat.le_refl _)) (by rw [lab]; omega))
    have HT2 := Lib.hid (fun W (s : At w W) Z cz (hz : na + nc ≤ cz) (hr : RW W Z cz (a ++ c)) => sum_any W s.t (a ++ c) Z cz (by rw [lac]; exact hz) (H0.out.2.2.2.2.1.append H0.out.2.2.2.2.2.2.1) (hr.rb (Nat.le_refl _)) (by rw [lac]; omega))
    rw [lab] at HT1
    rw [lac] at HT2
    clear lab lac
    generalize sha (a ++ b) = d1 at *
    generalize sha (a ++ c) = d2 at *
    have eqd1 := fun W => run_equalIn_dig W d1 d1 ld1 ld1
    have eqd2 := fun W => run_equalIn_dig W d2 d2 ld2 ld2
    have hdec1 : decide (d1 = d1) = true := by simp
    have hdec2 : decide (d2 = d2) = true := by simp
    refine (HS1.out _ H11.out.2.1 H11.out.2.2).mono ?_
    rintro e w12 ⟨rfl, B12⟩
    have H12 := Lib.hid (And.intro (H11.out.1.below B12 H11.out.1.lt) (H11.out.2.2.step B12))
    clear B12 H11
    go_wp2_with (first
      | (at_builtin; refine wpList_app8 rfl (.tmp 78) (.tmp 79) rfl w12.heap.size _ 0 0 [] rfl (ob_empty _ (Nat.le_refl _)) A na ca a rfl H0.out.2.1 ((H0.out.2.2.2.2.2.2.2.1.below H12.out.2.b).alloc _) (by omega) (by simp) ?_; intro A1 c1 w13 O13 B13 _; simp only [Nat.zero_add, List.nil_append] at O13; have H13 := Lib.hid (And.intro O13 (((Below.refl _ _).alloc (Nat.le_refl _) _).trans B13)); clear O13 B13)
      | (at_builtin; refine wpList_app8 rfl (.tmp 80) (.tmp 81) rfl w12.heap.size A1 na c1 a rfl H13.out.1 B nb cb b rfl H0.out.2.2.1 (H0.out.2.2.2.2.2.2.2.2.1.below (H12.out.2.step H13.out.2).b) (by omega) H13.out.2.size ?_; intro A2 c2 w14 O14 B14 _; have H14 := Lib.hid (And.intro O14 (H13.out.2.trans B14)); clear O14 B14))
    refine (HT1.out _ (H12.out.2.step H14.out.2) A2 c2 H14.out.1.cap_le H14.out.1.rw).mono ?_
    rintro e w15 ⟨rfl, B15⟩
    have H15 := Lib.hid (And.intro ((H12.out.1.below H14.out.2 H12.out.1.lt).below B15 (Nat.lt_of_lt_of_le H12.out.1.lt H14.out.2.size)) ((H12.out.2.step H14.out.2).step B15))
    clear B15
    go_wp2_with fail
    refine (HS2.out _ H15.out.1 H15.out.2).mono ?_
    rintro e w16 ⟨rfl, B16⟩
    have H16 := Lib.hid (H15.out.2.step B16)
    clear B16
    go_wp2_with (first
      | (at_builtin; refine wpList_unguard rfl (wpList_app8 rfl (.tmp 88) (.tmp 89) rfl w16.heap.size _ 0 0 [] rfl (ob_empty _ (Nat.le_refl _)) A na ca a rfl H0.out.2.1 ((H0.out.2.2.2.2.2.2.2.1.below H16.out.b).alloc _) (by omega) (by simp) ?_); intro A3 c3 w17 O17 B17 _; simp only [Nat.zero_add, List.nil_append] at O17; have H17 := Lib.hid (And.intro O17 (((Below.refl _ _).alloc (Nat.le_refl _) _).trans B17)); clear O17 B17)
      | (at_builtin; refine wpList_unguard rfl (wpList_app8 rfl (.tmp 90) (.tmp 91) rfl w16.heap.size A3 na c3 a rfl H17.out.1 C nc cc c rfl H0.out.2.2.2.1 (H0.out.2.2.2.2.2.2.2.2.2.below (H16.out.step H17.out.2).b) (by omega) H17.out.2.size ?_); intro A4 c4 w18 O18 B18 _; have H18 := Lib.hid (And.intro O18 (H17.out.2.trans B18)); clear O18 B18))
    refine (HT2.out _ (H16.out.step H18.out.2) A4 c4 H18.out.1.cap_le H18.out.1.rw).mono ?_
    rintro e w19 ⟨rfl, B19⟩
    have H19 := Lib.hid ((H16.out.step H18.out.2).step B19)
    clear B19
    go_wp2_with fail
    refine (known_any _ H19.out.t).mono ?_
    rintro e w20 ⟨rfl, B20⟩
    have H20 := Lib.hid (H19.out.step B20)
    clear B20
    go_wp2_with fail
    go_ret
    exact ⟨rfl, H20.out.b⟩
end Go.Proofs.YtediocpdpghbfaaDoor
