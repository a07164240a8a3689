/- Merkle: Verify, the program's. -/
import Derived.Test.YtediocpdpghbfaaDoorGenP
set_option linter.unusedSimpArgs false
set_option linter.unusedVariables false
namespace Go.Proofs.YtediocpdpghbfaaDoor
open Go Go.RowKit

def verifyL (root : List Nat) (n i : Nat) (leaf : List Nat) (ps : List (List Nat)) : Int :=
  if ps.length ≠ (sidesL n i).length then 3 else if foldS (leafL leaf) (sidesL n i) ps ≠ root then 27 else 0
attribute [local go_sem ↓] ld25 st25
set_option maxRecDepth 100000 in
theorem mverify_bad (w : World) (root : Value) (hr : ∃ cs, root = .agg cs) (n i : Int) (h : n < 1 ∨ 65536 < n ∨ i < 0 ∨ n ≤ i) (L P : Value) :
    Calls Tryd.prog 53 #[root, .int .i64 n, .int .i64 i, L, P] w fun e w' => e = .returned (.int .i64 2) ∧ Below w.heap.size w w' := by
  obtain ⟨cs, rfl⟩ := hr
  have h4 : n < 1 ∨ (¬ n < 1 ∧ 65536 < n) ∨ (¬ n < 1 ∧ ¬ 65536 < n ∧ i < 0) ∨ (¬ n < 1 ∧ ¬ 65536 < n ∧ ¬ i < 0 ∧ n ≤ i) := by omega
  clear h
  rcases h4 with h1 | ⟨h1, h2⟩ | ⟨h1, h2, h3⟩ | ⟨h1, h2, h3, h4⟩
  all_goals
    go_enter Tryd.func53, Tryd.ntmps53
    go_wp2_with fail
    go_ret
    exact ⟨rfl, (Below.refl _ _).alloc (Nat.le_refl _) _⟩
set_option maxRecDepth 100000 in
set_option maxHeartbeats 2000000 in
theorem mverify_any (w : World) (hT : Tabs w) (root : List Nat) (hr : root.length = 32) (n i : Nat) (hn1 : 1 ≤ n) (hn : n ≤ 65536) (hi : i < n) (leaf : List Nat) (A : Option Addr) (m cap : Nat) (hm : leaf.length = m) (hcap : m ≤ cap) (hm2 : m ≤ 2000) (hB : Bytes leaf) (hR : RW w A cap leaf)
    (ps : List (List Nat)) (P : Option Addr) (k pc : Nat) (hk : ps.length = k) (hk2 : k ≤ 65536) (hd : Digs ps) (hP : LV w P (hcell ps)) :
    Calls Tryd.prog 53 #[.agg (u8s root), .int .i64 n, .int .i64 i, .slice A m cap, .slice P k pc] w fun e w' => e = .returned (.int .i64 (verifyL root n i leaf ps)) ∧ Below w.heap.size w w' := by
  have E0 : Blk (w.alloc (.cells (u8s root) 25)) w.heap.size 25 (u8s root) := Blk.new _ _ _
  have A0 : At w (w.alloc (.cells (u8s root) 25)) := ⟨hT, (Below.refl _ _).alloc (Nat.le_refl _) _⟩
  obtain ⟨V, hV⟩ : ∃ V, verifyL root n i leaf ps = V := ⟨_, rfl⟩
  rw [hV]
  unfold verifyL at hV
  have hso := foldS_ok (sidesL n i) ps (leafL leaf) (leafL_length leaf) (sha_bytes _)
  have HS := Lib.hid (fun W => sides_any n i hn1 hn hi W)
  have hsl : (sidesL n i).length ≤ n := sidesL_length n i
  have HP := Lib.hid (fun W (s : At w W) (hl : ps.length = (sidesL n i).length) R rc (hRs : LV W R ((sidesL n i).map Value.bool)) => path_any W s.t leaf A m cap hm hcap hm2 hB (hR.below s.b) (sidesL n i) R (sidesL n i).length rc rfl (by omega) hRs ps P pc hl hd (hP.below s.b))
  have H0 := Lib.hid (And.intro E0 (And.intro A0 (And.intro hV (And.intro hk (stepsL_last leaf (sidesL n i) ps (sidesL n i).length)))))
  have hcl := Lib.hid (stepsL_length leaf (sidesL n i) ps (sidesL n i).length)
  clear E0 A0 hV hk hB hR hd hP hm hT
  generalize sidesL n i = S at *
  obtain ⟨q, hq⟩ : ∃ q, S.length = q := ⟨_, rfl⟩
  rw [hq] at HS H0 HP hsl hcl
  have HQ := Lib.hid hq
  clear hq
  have t1 : ¬ (n : Int) < 1 := by omega
  have t2 : ¬ (65536 : Int) < n := by omega
  have t3 : ¬ (i : Int) < 0 := by omega
  have t4 : ¬ (n : Int) ≤ i := by omega
  go_enter Tryd.func53, Tryd.ntmps53
  go_wp2_with fail
  change Calls _ _ _ (w.alloc (.cells (u8s root) 25)) _
  generalize w.alloc (.cells (u8s root) 25) = w1 at *
  refine (HS.out _).mono ?_
  rintro e w2 ⟨R, rc, rfl, OR, B2⟩
  have H2 := Lib.hid (And.intro (H0.out.1.below B2 H0.out.1.lt) (And.intro (H0.out.2.1.step B2) OR.lv))
  clear OR B2 HS
  by_cases hkq : k = q
  · subst hkq
    go_wp2_with fail
    refine (HP.out _ H2.out.2.1 H0.out.2.2.2.1 R rc H2.out.2.2).mono ?_
    rintro e w3 ⟨A3, c3, cs, rfl, O3, S3, B3⟩
    obtain ⟨g, rfl, hbg, hg⟩ := O3.some_ (by omega)
    have l3 := sc_hash O3.drew' S3 (j := k) (by rw [hcl.out]; omega)
    have hlast := H0.out.2.2.2.2
    rw [List.take_of_length_le (by rw [HQ.out]; omega), List.take_of_length_le (by rw [H0.out.2.2.2.1]; omega)] at hlast
    rw [hlast] at l3
    have H3 := Lib.hid (And.intro (H2.out.1.below B3 H2.out.1.lt) (H2.out.2.1.step B3))
    have l4 := load25_run H3.out.1.drew hr
    have HV := Lib.hid H0.out.2.2.1
    have HK := Lib.hid H0.out.2.2.2.1
    clear O3 S3 B3 hlast hcl HP H2 H0
    generalize foldS (leafL leaf) S ps = d at *
    have hkI : ((k + 1 : Nat) : Int) = (k : Int) + 1 := by omega
    by_cases hd : d = root
    · have hq := fun W => run_equalIn_dig W d root hso.1 hr
      rw [decide_eq_true hd] at hq
      have HD := Lib.hid hd
      clear hd
      go_wp2_with fail
      refine wp_region_sego [0, 0, 0, 0, 0, 0, 0, 0, 0] [] (by kernel_rfl) (by kernel_rfl) (fun _ _ d _ _ h => by cases d <;> exact h) (sego_end fun K0 hK0 => ?_)
      simp only [pickC, ↓reduceIte, Nat.reduceEqDiff, Nat.reduceAdd]
      go_wp2_with fail
      refine hK0.out _ ?_
      clear hK0 K0
      go_wp2_with fail
      go_ret
      have hv := HV.out
      rw [if_neg (by simpa using HK.out), if_neg (by simpa using HD.out)] at hv
      rw [← hv]
      exact ⟨rfl, H3.out.2.b.drew⟩
    · have hq := fun W => run_equalIn_dig W d root hso.1 hr
      rw [decide_eq_false hd] at hq
      have HD := Lib.hid hd
      clear hd
      go_wp2_with fail
      refine wp_region_sego [0, 0, 0, 0, 0, 0, 0, 0, 0] [] (by kernel_rfl) (by kernel_rfl) (fun _ _ d _ _ h => by cases d <;> exact h) (sego_end fun K0 hK0 => ?_)
      simp only [pickC, ↓reduceIte, Nat.reduceEqDiff, Nat.reduceAdd]
      go_wp2_with fail
      refine hK0.out _ ?_
      clear hK0 K0
      go_wp2_with fail
      go_ret
      have hv := HV.out
      rw [if_neg (by simpa using HK.out), if_pos HD.out] at hv
      rw [← hv]
      exact ⟨rfl, H3.out.2.b.drew⟩
  · have t5 : ((k : Int) != (q : Int)) = true := by rw [bne_iff_ne]; omega
    have hv := H0.out.2.2.1
    rw [if_pos (by rw [H0.out.2.2.2.1]; exact hkq)] at hv
    have HE := Lib.hid (And.intro H2.out.2.1.b hv)
    clear H0 H2 hv hkq HP HQ hcl hsl
    go_wp2_with fail
    go_ret
    rw [← HE.out.2]
    exact ⟨rfl, HE.out.1⟩
end Go.Proofs.YtediocpdpghbfaaDoor
