/- The law of Hash: the walk. -/
import Derived.Test.YtediocpdpghbfaaDoorLclo
set_option linter.unusedSimpArgs false
set_option linter.unusedVariables false
namespace Go.Proofs.YtediocpdpghbfaaDoor
open Go Go.RowKit

/-- a slice of slices of bytes that reads as ps -/
def PW (w : World) (A : Option Addr) (ps : List (List Nat)) : Prop :=
  ps = [] ∨ ∃ g off, A = some ⟨g, off, none⟩ ∧ g < w.heap.size ∧ ∀ j, j < ps.length → ∃ Aj cj, w.cell? ⟨g, off + j, none⟩ = some (.slice Aj (ps.getD j []).length cj) ∧ (ps.getD j []).length ≤ cj ∧ cj ≤ 140737488355328 ∧ Bytes (ps.getD j []) ∧ RW w Aj cj (ps.getD j [])
theorem OB.grown {w w' : World} {base : Nat} {A : Option Addr} {n cap : Nat} {l : List Nat} {g : Nat} (h : OB w base A n cap l) (hg : w.grownBy w' (some g)) (hb : g < base) : OB w' base A n cap l := by
  refine ⟨h.1, h.2.1, ?_⟩
  rcases h.2.2 with h2 | ⟨k, cap', cur, hv, hk, hh, h3, h4, h5, h6⟩
  · exact .inl h2
  · exact .inr ⟨k, cap', cur, hv, hk, (hg.block k (Array.getElem?_eq_some_iff.1 hh).1 (by intro e; injection e; omega)).trans hh, h3, h4, h5, h6⟩
theorem ob_nil (w : World) (base : Nat) : OB w base none 0 0 [] := ⟨rfl, rfl, .inl ⟨rfl, rfl⟩⟩
set_option maxRecDepth 100000 in
set_option maxHeartbeats 2000000 in
theorem law_hash (w : World) (hT : Tabs w) (ps : List (List Nat)) (A : Option Addr) (ca n : Nat) (ln : ps.length = n) (ha : n ≤ ca) (hca : ca ≤ 9223372036854775807) (hp : PW w A ps) :
    Calls Tryd.prog 6 #[.slice A n ca] w fun e w' => e = .returned (.bool true) ∧ Below w.heap.size w w' := by
  have two := hT.two
  have H0 := Lib.hid (And.intro hT (And.intro ln hp))
  clear hT ln hp
  go_enter Tryd.func6, Tryd.ntmps6
  go_wp2_with fail
  refine (new_any _ H0.out.1).mono ?_
  rintro e w1 ⟨rfl, h1, B1⟩
  obtain ⟨g, hg⟩ : ∃ g, w.heap.size = g := ⟨_, rfl⟩
  have hg1 : g < w1.heap.size := by rw [← hg]; exact h1.lt
  have HG := Lib.hid hg
  have H1 := Lib.hid (And.intro h1 (At.mk H0.out.1 B1))
  rw [hg] at H1 two ⊢
  clear h1 B1 hg
  go_wp2_with fail
  go_loopg [4, 5] n (fun f av iv wr => ∃ (k : Nat) (Z : Option Addr) (m cz : Nat) (M : List Nat), k + f = n ∧ iv = .int .i64 k ∧ av = .slice Z m cz ∧ m ≤ 1000 ∧ M.length = m ∧ Bytes M ∧ OB wr (g + 1) Z m cz M ∧ IsHash wr g M ∧ At w wr)
  case atStart => exact ⟨0, none, 0, 0, [], by omega, rfl, rfl, by omega, rfl, Bytes.nil, ob_nil _ _, H1.out.1, H1.out.2⟩
  case round =>
    obtain ⟨k, Z, m, cz, M, hkf, rfl, rfl, hm, lM, bM, O, I, S⟩ := hrel
    by_cases hc : k < n ∧ k < 30 ∧ m + (ps.getD k []).length ≤ 1000
    · obtain ⟨hk, hk30, hlen⟩ := hc
      rcases H0.out.2.2 with hnil | ⟨pg, po, rfl, hpg, hcell⟩
      · rw [hnil] at H0; have := H0.out.2.1; simp at this; omega
      obtain ⟨Aj, cj, c1, c2, c3, c4, c5⟩ := hcell k (by rw [H0.out.2.1]; exact hk)
      clear hcell
      generalize ps.getD k [] = p at *
      obtain ⟨x, hx⟩ : ∃ x, p.length = x := ⟨_, rfl⟩
      rw [hx] at c1 c2 hlen
      have d1 := (S.b.cell (p := ⟨pg, po + k, none⟩) hpg).trans c1
      have HE := Lib.hid (And.intro hkf (And.intro lM (And.intro bM (And.intro O (And.intro I (And.intro S (And.intro c4 (And.intro c5 (And.intro hx c1)))))))))
      clear hkf lM bM O I S c1 c4 c5 hx
      go_wp2_with fail
      obtain ⟨hkf, lM, bM, O, I, S, c4, c5, hx, c1⟩ := HE.out
      have hgw := HG.out
      have hwr := write_any wr S.t g two M p I Aj cj (by rw [hx]; exact c2) c4 ((c5.rb (Nat.le_refl _)).move S.b (by omega)) (by rw [lM, hx]; omega)
      rw [hx] at hwr
      refine hwr.mono ?_
      clear hwr
      rintro e w2 ⟨rfl, I2, G2⟩
      have S2 := S.grown G2 (by omega)
      have d2 := (S2.b.cell (p := ⟨pg, po + k, none⟩) hpg).trans c1
      have lN : (M ++ p).length = m + x := by rw [List.length_append, lM, hx]
      have H2 := Lib.hid (And.intro I2 (And.intro S2 (O.grown G2 (Nat.lt_succ_self g))))
      clear I2 S2 G2 hkf lM bM O I S c4 c5 hx c1 d1
      go_wp2_with (at_builtin; refine wpList_app8 rfl (.tmp 35) (.tmp 39) rfl (g + 1) Z m cz M rfl H2.out.2.2 Aj x cj p rfl HE.out.2.2.2.2.2.2.2.2.1 (HE.out.2.2.2.2.2.2.2.1.below H2.out.2.1.b) (by omega) (by have := H2.out.1.lt; omega) ?_; intro Z3 c3 w3 O3 B3 _; have H3 := Lib.hid (And.intro O3 B3); clear O3 B3)
      have I3 := H2.out.1.below H3.out.2 (Nat.lt_succ_self g)
      have S3 : At w w3 := ⟨H0.out.1, H2.out.2.1.b.trans (H3.out.2.mono (by have := HG.out; omega))⟩
      have hl := len_any w3 g (M ++ p) I3
      rw [lN] at hl
      refine hl.mono ?_
      clear hl
      rintro e w4 ⟨rfl, rfl⟩
      have ld := sha_length (M ++ p)
      have bN : Bytes (M ++ p) := HE.out.2.2.1.append HE.out.2.2.2.2.2.2.1
      have HS1 := Lib.hid (fun W (h : IsHash W g (M ++ p)) (s : At w W) => msum_any W s.t g (M ++ p) h (by rw [lN]; omega))
      have HS2 := Lib.hid (fun W (s : At w W) Z cz (hz : m + x ≤ cz) (hr : RW W Z cz (M ++ p)) => sum_any W s.t (M ++ p) Z cz (by rw [lN]; exact hz) bN (hr.rb (Nat.le_refl _)) (by rw [lN]; omega))
      rw [lN] at HS2
      generalize sha (M ++ p) = d at *
      have eqd := fun W => run_equalIn_dig W d d ld ld
      have hdec : decide (d = d) = true := by simp
      have H4 := Lib.hid (And.intro I3 (And.intro S3 (And.intro lN bN)))
      clear I3 S3 lN bN
      go_wp2_with fail
      refine (HS1.out _ H4.out.1 H4.out.2.1).mono ?_
      rintro e w5 ⟨rfl, B5⟩
      have H5 := Lib.hid (And.intro (H4.out.1.below B5 H4.out.1.lt) (And.intro (H4.out.2.1.step B5) (H3.out.1.below B5)))
      clear B5
      go_wp2_with fail
      refine (HS2.out _ H5.out.2.1 Z3 c3 H5.out.2.2.cap_le H5.out.2.2.rw).mono ?_
      rintro e w6 ⟨rfl, B6⟩
      have H6 := Lib.hid (And.intro (H5.out.1.below B6 H5.out.1.lt) (And.intro (H5.out.2.1.step B6) (H5.out.2.2.below B6)))
      clear B6
      go_wp2_with fail
      go_roundg (gk - 1)
      case measure => have := HE.out.1; omega
      case rel => exact ⟨k + 1, Z3, m + x, c3, M ++ p, by have := HE.out.1; omega, by go_num, by simp, by omega, H4.out.2.2.1, H4.out.2.2.2, H6.out.2.2, H6.out.1, H6.out.2.1⟩
    · have hlc : k < n → k < 30 → 1000 < m + (ps.getD k []).length := fun h1 h2 => by
        rcases Nat.lt_or_ge 1000 (m + (ps.getD k []).length) with h | h
        · exact h
        · exact absurd ⟨h1, h2, h⟩ hc
      clear hc
      have HE := Lib.hid (And.intro hkf (And.intro lM (And.intro bM (And.intro O (And.intro I S)))))
      clear hkf lM bM O I S
      have ld := sha_length M
      have HS := Lib.hid (fun W (h : IsHash W g M) (s : At w W) => msum_any W s.t g M h (by rw [HE.out.2.1]; omega))
      have HR := Lib.hid (fun W (hr : RW W Z cz M) => rsum_any W M Z cz (by rw [HE.out.2.1]; exact HE.out.2.2.2.1.cap_le) HE.out.2.2.1 hr (by rw [HE.out.2.1]; omega))
      rw [HE.out.2.1] at HR
      have HM := Lib.hid make_any
      generalize TT = T at *
      generalize sha M = d at *
      have eqd := fun W => run_equalIn_dig W d d ld ld
      have hdec : decide (d = d) = true := by simp
      have parts : (k < n ∧ k < 30) ∨ (k < n ∧ ¬ k < 30) ∨ ¬ k < n := by omega
      rcases parts with ⟨hk, hk30⟩ | ⟨hk, hk30⟩ | hk
      · rcases H0.out.2.2 with hnil | ⟨pg, po, rfl, hpg, hcell⟩
        · rw [hnil] at H0; have := H0.out.2.1; simp at this; omega
        obtain ⟨Aj, cj, c1, c2, c3, c4, c5⟩ := hcell k (by rw [H0.out.2.1]; exact hk)
        have hbig := hlc hk hk30
        clear hcell hlc
        generalize ps.getD k [] = p at *
        obtain ⟨x, hx⟩ : ∃ x, p.length = x := ⟨_, rfl⟩
        rw [hx] at c1 c2 hbig
        have hx3 : x ≤ 9223372036854775807 - 1000 := by omega
        have d1 := (HE.out.2.2.2.2.2.b.cell (p := ⟨pg, po + k, none⟩) hpg).trans c1
        clear c1 c4 c5 hx c3
        go_wp2_with fail
        refine (HS.out _ HE.out.2.2.2.2.1 HE.out.2.2.2.2.2).mono ?_
        rintro e w2 ⟨rfl, B2⟩
        have H2 := Lib.hid (And.intro (HE.out.2.2.2.2.2.step B2) (HE.out.2.2.2.1.below B2))
        clear B2
        go_wp2_with fail
        refine (HM.out _).mono ?_
        rintro e w3 ⟨rfl, B3⟩
        have H3 := Lib.hid (And.intro (H2.out.1.step B3) (H2.out.2.below B3))
        clear B3
        go_wp2_with fail
        refine (HR.out _ H3.out.2.rw).mono ?_
        rintro e w4 ⟨rfl, B4⟩
        have H4 := Lib.hid (H3.out.1.step B4)
        clear B4
        go_wp2_with fail
        refine (known_any _ H4.out.t).mono ?_
        rintro e w5 ⟨rfl, B5⟩
        have H5 := Lib.hid (H4.out.step B5)
        clear B5
        go_wp2_with fail
        go_ret
        exact ⟨rfl, HG.out ▸ H5.out.b⟩
      all_goals
        clear hlc
        go_wp2_with fail
        refine (HS.out _ HE.out.2.2.2.2.1 HE.out.2.2.2.2.2).mono ?_
        rintro e w2 ⟨rfl, B2⟩
        have H2 := Lib.hid (And.intro (HE.out.2.2.2.2.2.step B2) (HE.out.2.2.2.1.below B2))
        clear B2
        go_wp2_with fail
        refine (HM.out _).mono ?_
        rintro e w3 ⟨rfl, B3⟩
        have H3 := Lib.hid (And.intro (H2.out.1.step B3) (H2.out.2.below B3))
        clear B3
        go_wp2_with fail
        refine (HR.out _ H3.out.2.rw).mono ?_
        rintro e w4 ⟨rfl, B4⟩
        have H4 := Lib.hid (H3.out.1.step B4)
        clear B4
        go_wp2_with fail
        refine (known_any _ H4.out.t).mono ?_
        rintro e w5 ⟨rfl, B5⟩
        have H5 := Lib.hid (H4.out.step B5)
        clear B5
        go_wp2_with fail
        go_ret
        exact ⟨rfl, HG.out ▸ H5.out.b⟩
end Go.Proofs.YtediocpdpghbfaaDoor
