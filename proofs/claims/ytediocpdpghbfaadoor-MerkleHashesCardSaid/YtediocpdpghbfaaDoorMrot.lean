/- Merkle: Root, the program's and the reference's. -/
import Derived.Test.YtediocpdpghbfaaDoorMroo
set_option linter.unusedSimpArgs false
set_option linter.unusedVariables false
namespace Go.Proofs.YtediocpdpghbfaaDoor
open Go Go.RowKit

theorem results_cell25_2 {P : Program} {fn : Func} {p u : Tmp} {ty : TypeId} (h : fn.results = #[.cell p ty, .tmp u]) (tmps : Array Value) (w : World) (g : Nat) (t : TypeId) (cs : Array Value) (fr : Nat × Nat) (d : TypeDesc)
    (hp : tmps.getD p undef = .pointer (some ⟨g, 0, none⟩)) (hg : w.heap[g]? = some (.cells cs t fr))
    (hu : P.underlying ty = some d) (hd : (match d with | .struct _ | .array _ _ => true | _ => false) = true) (hi : (P.info? ty).map (·.size) = some cs.size) :
    (results fn tmps).run P w = .ok (.tuple #[.agg cs, tmps.getD u undef]) w := by
  have hp' : tmps[p]?.getD undef = .pointer (some ⟨g, 0, none⟩) := by simpa using hp
  simp [results, h, hp', asAddr, run_loadVar_row w g t ty cs fr d hg hu hd hi]
attribute [local go_sem ↓] ld25 st25 ld24 st24 ld32
set_option maxRecDepth 100000 in
set_option maxHeartbeats 1000000 in
theorem mroot_any (n : Nat) (ps : List (List Nat)) (w : World) (A : Option Addr) (cap : Nat) (hl : ps.length = n) (hn : n ≤ 65536) (hcap : n ≤ cap) (hcm : cap ≤ 9223372036854775807) (hT : Tabs w) (hP : PL w A ps) :
    Calls Tryd.prog 44 #[.slice A n cap] w fun e w' => e = .returned (.tuple #[.agg (u8s (mrootL ps)), .int .i64 0]) ∧ Below w.heap.size w w' := by
  have E0 := Blk.new w 25 (u8s (zer 32))
  have S0 : At w (w.alloc (.cells (u8s (zer 32)) 25)) := ⟨hT, (Below.refl _ _).alloc (Nat.le_refl _) _⟩
  have HS := Lib.hid (rootof_any n ps (w.alloc (.cells (u8s (zer 32)) 25)) A cap hl (by omega) hcap hcm S0.t (hP.below ((Below.refl _ _).alloc (Nat.le_refl _) _)))
  have HE := Lib.hid (And.intro E0 S0)
  have hd := mrootL_length ps
  clear E0 S0 hP hT hl
  generalize mrootL ps = d at *
  go_enter Tryd.func44, Tryd.ntmps44
  go_wp2_with fail
  refine HS.out.mono ?_
  rintro e w1 ⟨rfl, B1⟩
  have H1 := Lib.hid (And.intro (HE.out.1.below B1 HE.out.1.lt) (HE.out.2.step B1))
  have s1 := store25_run H1.out.1 rfl hd
  clear B1
  go_wp2_with fail
  exact bodyPost_ret (v := .tuple #[.agg (u8s d), .int .i64 0]) (results_cell25_2 (p := 2) (u := 3) rfl _ _ w.heap.size 25 _ (0, 0) _ rfl (H1.out.1.setRow _) Tryd.underlying25 rfl (size25 _ hd)) rfl ⟨rfl, below_setRow' H1.out.2.b (Nat.le_refl _) _⟩

/-- what a call of the reference's that returns a digest in a fresh variable comes to -/
theorem dig24_ret {fn : Func} {a : Act} {w W : World} {g : Nat} {p : Tmp} {d : List Nat} (h : fn.results = #[.cell p 24]) (hd : d.length = 32) (hp : a.tmps.getD p undef = .pointer (some ⟨g, 0, none⟩)) (hdf : a.defers = [])
    (hE : Blk W g 24 (u8s (zer 32))) (hg : w.heap.size ≤ g) (hB : Below w.heap.size w W) : bodyPost Tryd.prog fn (fun e w' => e = .returned (.agg (u8s d)) ∧ Below w.heap.size w w') .ret a (W.setRow g (u8s d)) :=
  bodyPost_ret (v := .agg (u8s d)) (results_cell_row h _ _ g 24 _ (0, 0) _ hp (hE.setRow _) Tryd.underlying24 rfl (size24 _ hd)) hdf ⟨rfl, below_setRow' hB hg _⟩
set_option maxRecDepth 100000 in
set_option maxHeartbeats 2000000 in
theorem rroot_any : ∀ (n : Nat) (ps : List (List Nat)) (w : World) (A : Option Addr) (cap : Nat), ps.length = n → n ≤ 100000 → n ≤ cap → cap ≤ 9223372036854775807 → PL w A ps →
    Calls Tryd.prog 45 #[.agg (u32s TT), .slice A n cap] w fun e w' => e = .returned (.agg (u8s (mrootL ps))) ∧ Below w.heap.size w w' := by
  intro n
  induction n using Nat.strongRecOn with
  | ind n ih =>
    intro ps w A cap hl hn hcap hcm hP
    have IH := Lib.hid ih
    clear ih
    obtain ⟨W, hW⟩ : ∃ W, W = (w.alloc (.cells (u32s TT) 32)).alloc (.cells (u8s (zer 32)) 24) := ⟨_, rfl⟩
    have E1 : Blk W w.heap.size 32 (u32s TT) := by rw [hW]; exact (Blk.new _ _ _).alloc _
    have E2 : Blk W (w.heap.size + 1) 24 (u8s (zer 32)) := by rw [hW]; exact Blk.new1 _ _ _ _
    have B0 : Below w.heap.size w W := by rw [hW]; exact ((Below.refl _ _).alloc (Nat.le_refl _) _).alloc (by simp) _
    have HE := Lib.hid (And.intro E1 (And.intro E2 B0))
    have l1 := load32_run E1.drew
    have l0 := load32_run E1
    have hd := mrootL_length ps
    rcases Nat.lt_or_ge n 2 with h2 | h2
    · rcases Nat.eq_zero_or_pos n with h0 | h0
      · subst h0
        have hr : mrootL ps = sha [] := mrootL_zero ps hl
        have HS := Lib.hid (fun W => rsum_any W [] none 0 (by simp) Bytes.nil (rw_nil W) (by simp))
        rw [← hr] at HS
        clear hr E1 E2 B0 hP hl
        generalize mrootL ps = d at *
        go_enter Tryd.func45, Tryd.ntmps45
        go_wp2_with (refine wpList_load_row rfl 32 (.tmp 2) rfl w.heap.size rfl 32 (u32s TT) (0, 0) _ (hW ▸ HE.out.1) Tryd.underlying32 rfl (by kernel_rfl) ?_)
        change Calls _ _ _ ((w.alloc (.cells (u32s TT) 32)).alloc (.cells (u8s (zer 32)) 24)) _
        rw [← hW]
        clear hW l1 l0
        refine (HS.out _).mono ?_
        rintro e w1 ⟨rfl, B1⟩
        have H1 := Lib.hid (And.intro (HE.out.2.1.below B1 HE.out.2.1.lt) (HE.out.2.2.trans (B1.mono HE.out.2.2.size)))
        have s1 := store24_run H1.out.1 rfl hd
        clear B1
        go_wp2_with fail
        exact dig24_ret rfl hd rfl rfl H1.out.1 (by omega) H1.out.2
      · obtain rfl : n = 1 := by omega
        have hr : mrootL ps = leafL (ps.getD 0 []) := mrootL_one ps hl
        rcases hP with hnil | ⟨g, off, rfl, hg, hc⟩
        · rw [hnil] at hl; simp at hl
        obtain ⟨Aj, cj, c1, c2, c3, c4, c5⟩ := hc 0 (by omega)
        rw [Nat.add_zero] at c1
        obtain ⟨x, hx⟩ : ∃ x, (ps.getD 0 []).length = x := ⟨_, rfl⟩
        rw [hx] at c1 c2 c3
        have HS := Lib.hid (fun W (s : Below w.heap.size w W) => rleaf_any W (ps.getD 0 []) Aj x cj hx c2 (by omega) c4 (c5.below s))
        rw [← hr] at HS
        have d1 := ((B0.drew).cell (p := ⟨g, off, none⟩) hg).trans c1
        clear hr E1 E2 B0 hl hc c1 c2 c3 c4 c5 hx l0
        generalize mrootL ps = d at *
        go_enter Tryd.func45, Tryd.ntmps45
        go_wp2_with fail
        change Code.wp _ _ _ _ ((w.alloc (.cells (u32s TT) 32)).alloc (.cells (u8s (zer 32)) 24))
        rw [← hW]
        clear hW
        refine wp_region_sego [0, 0, 0, 0, 1, 3] [true, true] (by kernel_rfl) (by kernel_rfl) (fun _ _ d _ _ h => by cases d <;> exact h) (sego_last fun K0 hK0 => ?_)
        simp only [pickC, ↓reduceIte, Nat.reduceEqDiff, Nat.reduceAdd]
        go_wp2_with fail
        refine hK0.out _ (sego_do fun K2 hK2 => ?_)
        clear hK0 K0
        simp only [pickC, ↓reduceIte, Nat.reduceEqDiff, Nat.reduceAdd]
        go_wp2_with fail
        refine (HS.out _ HE.out.2.2.drew).mono ?_
        rintro e w1 ⟨rfl, B1⟩
        have H1 := Lib.hid (And.intro (HE.out.2.1.drew.below B1 HE.out.2.1.drew.lt) (HE.out.2.2.drew.trans (B1.mono HE.out.2.2.drew.size)))
        have s1 := store24_run H1.out.1 rfl hd
        clear B1 d1
        go_wp2_with fail
        refine hK2.out _ _ (sego_last fun K0 hK0 => ?_)
        clear hK2 K2
        simp only [pickC, ↓reduceIte, Nat.reduceEqDiff, Nat.reduceAdd]
        go_wp2_with fail
        refine hK0.out _ (sego_do fun K2 hK2 => ?_)
        clear hK0 K0
        simp only [pickC, ↓reduceIte, Nat.reduceEqDiff, Nat.reduceAdd]
        go_wp2_with fail
        refine hK2.out _ _ (sego_end fun K0 hK0 => ?_)
        clear hK2 K2
        simp only [pickC, ↓reduceIte, Nat.reduceEqDiff, Nat.reduceAdd]
        go_wp2_with fail
        refine hK0.out _ ?_
        clear hK0 K0
        go_wp2_with fail
        exact dig24_ret rfl hd rfl rfl H1.out.1 (by omega) H1.out.2
    · have hk := splitL_bd n h2
      have hr : mrootL ps = nodeL (mrootL (ps.take (splitL n))) (mrootL (ps.drop (splitL n))) := by rw [← hl]; exact mrootL_node ps (by omega)
      have HK := Lib.hid (fun W => rsplit_any n (by omega) W)
      generalize splitL n = k at *
      rcases hP with hnil | ⟨g, off, rfl, hg, hc⟩
      · rw [hnil] at hl; simp at hl; omega
      have hP : PL w (some ⟨g, off, none⟩) ps := .inr ⟨g, off, rfl, hg, hc⟩
      have h1 := fun W (s : Below w.heap.size w W) => IH.out k (by omega) (ps.take k) W (some ⟨g, off, none⟩) cap (by rw [List.length_take]; omega) (by omega) (by omega) hcm ((hP.below s).take k)
      have h2' := fun W (s : Below w.heap.size w W) => IH.out (n - k) (by omega) (ps.drop k) W (some ⟨g, off + k, none⟩) (cap - k) (by rw [List.length_drop]; omega) (by omega) (by omega) (by omega) ((hP.below s).drop k)
      have h3 := fun W => rnode_any W (mrootL (ps.take k)) (mrootL (ps.drop k)) (mrootL_length _) (mrootL_length _) (mrootL_bytes _) (mrootL_bytes _)
      rw [← hr] at h3
      have H1 := Lib.hid (And.intro h1 (And.intro h2' h3))
      clear h1 h2' h3 hr hP hc E1 E2 B0 hl l0
      generalize mrootL (ps.take k) = da at *
      generalize mrootL (ps.drop k) = db at *
      generalize mrootL ps = d at *
      have s1 := fun W => sl41_h g off n cap k (by omega) W
      have s2 := fun W => sl41_l g off n cap k (by omega) hcap W
      have t0 : ((n : Int) == 0) = false := by rw [beq_eq_false_iff_ne]; omega
      have t1 : ((n : Int) == 1) = false := by rw [beq_eq_false_iff_ne]; omega
      go_enter Tryd.func45, Tryd.ntmps45
      go_wp2_with fail
      change Calls _ _ _ ((w.alloc (.cells (u32s TT) 32)).alloc (.cells (u8s (zer 32)) 24)) _
      rw [← hW]
      clear hW
      refine (HK.out _).mono ?_
      rintro e w1 ⟨rfl, rfl⟩
      go_wp2_with fail
      refine wp_region_sego [0, 0, 0, 0, 0, 1, 0, 0, 0, 0, 3, 5, 7] [false, false, true, true] (by kernel_rfl) (by kernel_rfl) (fun _ _ d _ _ h => by cases d <;> exact h) (sego_go fun K0 hK0 => ?_)
      simp only [pickC, ↓reduceIte, Nat.reduceEqDiff, Nat.reduceAdd]
      go_wp2_with fail
      refine hK0.out _ (sego_act fun K2 hK2 => ?_)
      clear hK0 K0
      simp only [pickC, ↓reduceIte, Nat.reduceEqDiff, Nat.reduceAdd]
      go_wp2_with fail
      refine (H1.out.1 _ HE.out.2.2.drew).mono ?_
      rintro e w2 ⟨rfl, hBelow⟩
      have l2 := load32_run (HE.out.1.drew.below hBelow HE.out.1.drew.lt)
      have H2 := Lib.hid (And.intro (HE.out.2.1.drew.below hBelow HE.out.2.1.drew.lt) (HE.out.2.2.drew.trans (hBelow.mono HE.out.2.2.drew.size)))
      go_wp2_with fail
      refine hK2.out _ _ hBelow (sego_go fun K0 hK0 => ?_)
      clear hK2 K2 hBelow
      simp only [pickC, ↓reduceIte, Nat.reduceEqDiff, Nat.reduceAdd]
      go_wp2_with fail
      refine hK0.out _ (sego_act fun K2 hK2 => ?_)
      clear hK0 K0
      simp only [pickC, ↓reduceIte, Nat.reduceEqDiff, Nat.reduceAdd]
      go_wp2_with fail
      refine (H1.out.2.1 _ H2.out.2).mono ?_
      rintro e w3 ⟨rfl, hBelow⟩
      have H3 := Lib.hid (And.intro (H2.out.1.below hBelow H2.out.1.lt) (H2.out.2.trans (hBelow.mono H2.out.2.size)))
      go_wp2_with fail
      refine hK2.out _ _ hBelow (sego_last fun K0 hK0 => ?_)
      clear hK2 K2 hBelow
      simp only [pickC, ↓reduceIte, Nat.reduceEqDiff, Nat.reduceAdd]
      go_wp2_with fail
      refine hK0.out _ (sego_do fun K2 hK2 => ?_)
      clear hK0 K0
      simp only [pickC, ↓reduceIte, Nat.reduceEqDiff, Nat.reduceAdd]
      go_wp2_with fail
      refine (H1.out.2.2 _).mono ?_
      rintro e w4 ⟨rfl, B4⟩
      have H4 := Lib.hid (And.intro (H3.out.1.below B4 H3.out.1.lt) (H3.out.2.trans (B4.mono H3.out.2.size)))
      clear B4
      have s4 := store24_run H4.out.1 rfl hd
      go_wp2_with fail
      refine hK2.out _ _ (sego_last fun K0 hK0 => ?_)
      clear hK2 K2
      simp only [pickC, ↓reduceIte, Nat.reduceEqDiff, Nat.reduceAdd]
      go_wp2_with fail
      refine hK0.out _ (sego_do fun K2 hK2 => ?_)
      clear hK0 K0
      simp only [pickC, ↓reduceIte, Nat.reduceEqDiff, Nat.reduceAdd]
      go_wp2_with fail
      refine hK2.out _ _ (sego_end fun K0 hK0 => ?_)
      clear hK2 K2
      simp only [pickC, ↓reduceIte, Nat.reduceEqDiff, Nat.reduceAdd]
      go_wp2_with fail
      refine hK0.out _ ?_
      clear hK0 K0
      go_wp2_with fail
      exact dig24_ret rfl hd rfl rfl H4.out.1 (by omega) H4.out.2
end Go.Proofs.YtediocpdpghbfaaDoor
