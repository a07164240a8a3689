/- Merkle: the root of leaves: rootOf and Root, the program's and the reference's. -/
import Derived.Test.YtediocpdpghbfaaDoorMspl
set_option linter.unusedSimpArgs false
set_option linter.unusedVariables false
namespace Go.Proofs.YtediocpdpghbfaaDoor
open Go Go.RowKit

/-! ### plain -/
def mrootF : Nat → List (List Nat) → List Nat
  | 0, _ => sha []
  | f + 1, l => if l.length = 0 then sha [] else if l.length = 1 then leafL (l.getD 0 []) else nodeL (mrootF f (l.take (splitL l.length))) (mrootF f (l.drop (splitL l.length)))
def mrootL (l : List (List Nat)) : List Nat := mrootF l.length l
theorem mrootF_fuel : ∀ (f : Nat) (l : List (List Nat)), l.length ≤ f → mrootF f l = mrootL l := by
  intro f
  induction f using Nat.strongRecOn with
  | ind f ih =>
    intro l hl
    cases f with
    | zero =>
      have : l.length = 0 := by omega
      unfold mrootL; rw [this]
    | succ f =>
      unfold mrootL
      rcases Nat.lt_or_ge l.length 2 with h2 | h2
      · rcases Nat.eq_zero_or_pos l.length with h0 | h0
        · rw [h0]; unfold mrootF; rw [if_pos h0]
        · have h1 : l.length = 1 := by omega
          rw [h1]; unfold mrootF; rw [if_neg (by omega), if_pos h1, if_neg (by omega), if_pos h1]
      · obtain ⟨m, hm⟩ : ∃ m, l.length = m + 1 := ⟨l.length - 1, by omega⟩
        have hs := splitL_bd l.length h2
        rw [show mrootF l.length l = mrootF (m + 1) l by rw [hm]]
        unfold mrootF
        rw [if_neg (by omega), if_neg (by omega), if_neg (by omega), if_neg (by omega)]
        have t1 : (l.take (splitL l.length)).length ≤ m := by rw [List.length_take]; omega
        have t2 : (l.drop (splitL l.length)).length ≤ m := by rw [List.length_drop]; omega
        rw [ih f (by omega) _ (by omega), ih f (by omega) _ (by omega)]
        have hmf : m < f + 1 := by omega
        rw [ih m hmf _ t1, ih m hmf _ t2]
theorem mrootL_node (l : List (List Nat)) (h : 2 ≤ l.length) : mrootL l = nodeL (mrootL (l.take (splitL l.length))) (mrootL (l.drop (splitL l.length))) := by
  obtain ⟨m, hm⟩ : ∃ m, l.length = m + 1 := ⟨l.length - 1, by omega⟩
  have hs := splitL_bd l.length h
  conv => lhs; unfold mrootL; rw [hm]; unfold mrootF
  rw [if_neg (by omega), if_neg (by omega), mrootF_fuel m _ (by rw [List.length_take]; omega), mrootF_fuel m _ (by rw [List.length_drop]; omega)]
theorem mrootL_zero (l : List (List Nat)) (h : l.length = 0) : mrootL l = sha [] := by unfold mrootL; rw [h]; rfl
theorem mrootL_one (l : List (List Nat)) (h : l.length = 1) : mrootL l = leafL (l.getD 0 []) := by unfold mrootL; rw [h]; unfold mrootF; rw [if_neg (by omega), if_pos h]
theorem mrootF_ok : ∀ (f : Nat) (l : List (List Nat)), (mrootF f l).length = 32 ∧ Bytes (mrootF f l)
  | 0, _ => ⟨sha_length _, sha_bytes _⟩
  | f + 1, l => by
    unfold mrootF
    split
    · exact ⟨sha_length _, sha_bytes _⟩
    · split <;> exact ⟨sha_length _, sha_bytes _⟩
theorem mrootL_length (l : List (List Nat)) : (mrootL l).length = 32 := (mrootF_ok _ _).1
theorem mrootL_bytes (l : List (List Nat)) : Bytes (mrootL l) := (mrootF_ok _ _).2

/-! ### slices of slices of bytes -/
def PL (w : World) (A : Option Addr) (ps : List (List Nat)) : Prop :=
  ps = [] ∨ ∃ g off, A = some ⟨g, off, none⟩ ∧ g < w.heap.size ∧ ∀ j, j < ps.length → ∃ Aj cj, w.cell? ⟨g, off + j, none⟩ = some (.slice Aj (ps.getD j []).length cj) ∧ (ps.getD j []).length ≤ cj ∧ (ps.getD j []).length ≤ 1000 ∧ Bytes (ps.getD j []) ∧ RW w Aj cj (ps.getD j [])
theorem PL.below {w w' : World} {A : Option Addr} {ps : List (List Nat)} (h : PL w A ps) (hb : Below w.heap.size w w') : PL w' A ps := by
  rcases h with h | ⟨g, off, hA, hg, hc⟩
  · exact .inl h
  · refine .inr ⟨g, off, hA, Nat.lt_of_lt_of_le hg hb.size, fun j hj => ?_⟩
    obtain ⟨Aj, cj, c1, c2, c3, c4, c5⟩ := hc j hj
    exact ⟨Aj, cj, (hb.cell (p := ⟨g, off + j, none⟩) hg).trans c1, c2, c3, c4, c5.below hb⟩
theorem getD_take {ps : List (List Nat)} {k j : Nat} (h : j < k) : (ps.take k).getD j [] = ps.getD j [] := by
  simp [List.getD_eq_getElem?_getD, List.getElem?_take, h]
theorem getD_drop {ps : List (List Nat)} {k j : Nat} : (ps.drop k).getD j [] = ps.getD (k + j) [] := by
  simp [List.getD_eq_getElem?_getD, List.getElem?_drop]
theorem PL.take {w : World} {A : Option Addr} {ps : List (List Nat)} (h : PL w A ps) (k : Nat) : PL w A (ps.take k) := by
  rcases h with h | ⟨g, off, hA, hg, hc⟩
  · left; rw [h]; simp
  · refine .inr ⟨g, off, hA, hg, fun j hj => ?_⟩
    rw [List.length_take] at hj
    rw [getD_take (by omega)]
    exact hc j (by omega)
theorem PL.drop {w : World} {g off : Nat} {ps : List (List Nat)} (h : PL w (some ⟨g, off, none⟩) ps) (k : Nat) : PL w (some ⟨g, off + k, none⟩) (ps.drop k) := by
  rcases h with h | ⟨g', off', hA, hg, hc⟩
  · left; rw [h]; simp
  · injection hA with hA
    injection hA with e1 e2
    subst e1; subst e2
    refine .inr ⟨g, off + k, rfl, hg, fun j hj => ?_⟩
    rw [List.length_drop] at hj
    rw [getD_drop, Nat.add_assoc]
    exact hc (k + j) (by omega)
theorem size22 : (Tryd.prog.info? 22).map (·.size) = some 1 := by kernel_rfl
theorem elem41 : Tryd.prog.elem 41 = 22 := by kernel_rfl
theorem sl41_h (g off n cap k : Nat) (hk : k ≤ cap) (w : World) :
    (Instr.sliceAt 41 (.slice (some ⟨g, off, none⟩) n cap) none (some (.int .i64 (k : Int))) none).run Tryd.prog w = .ok (.slice (some ⟨g, off, none⟩) k cap) w := by
  have hs := size22
  rw [run_sliceAt_slice w 41 _ _ _ _ (by rw [elem41]; exact Tryd.underlying41), run_slice_h w 41 _ n cap (by rw [elem41]; exact Tryd.underlying41) .i64 k (by omega) (by omega)]
  cases hq : Tryd.prog.info? 22 with
  | none => simp [hq] at hs
  | some i =>
    have hi : i.size = 1 := by simpa [hq] using hs
    simp [elem41, sizeOf, typeInfo, hq, hi, sliced, addr_add]
theorem sl41_l (g off n cap k : Nat) (hk : k < n) (hn : n ≤ cap) (w : World) :
    (Instr.sliceAt 41 (.slice (some ⟨g, off, none⟩) n cap) (some (.int .i64 (k : Int))) none none).run Tryd.prog w = .ok (.slice (some ⟨g, off + k, none⟩) (n - k) (cap - k)) w := by
  have hs := size22
  rw [run_sliceAt_slice w 41 _ _ _ _ (by rw [elem41]; exact Tryd.underlying41), run_slice_l w 41 _ n cap (by rw [elem41]; exact Tryd.underlying41) .i64 k (by omega) (by omega)]
  cases hq : Tryd.prog.info? 22 with
  | none => simp [hq] at hs
  | some i =>
    have hi : i.size = 1 := by simpa [hq] using hs
    have hne : ¬ cap = k := by omega
    simp [elem41, sizeOf, typeInfo, hq, hi, sliced, addr_add, hne]

/-! ### rootOf -/
attribute [local go_sem ↓] ld25 st25 ld24 st24 ld32
theorem store25_run {w : World} {S : Nat} {d d' : List Nat} (h : Blk w S 25 (u8s d)) (hl : d.length = 32) (hl' : d'.length = 32) :
    (storeAgg 25 (.pointer (some ⟨S, 0, none⟩)) (.agg (u8s d'))).run Tryd.prog w = .ok () (w.setRow S (u8s d')) := by
  have := storeAgg_run (P := Tryd.prog) (ty := 25) (off := 0) (cur := (u8s d).toList) (u8s d') (by rw [Array.toArray_toList]; exact h) (size25 d' hl') (by rw [u8s_size, hl', Array.length_toList, u8s_size, hl]; omega) (u8s_one _)
  rw [this, List.drop_eq_nil_of_le (by rw [Array.length_toList, u8s_size, u8s_size, hl, hl']; omega), List.take_zero, List.nil_append, List.append_nil, Array.toArray_toList]
theorem rw_nil (w : World) : RW w none 0 [] := ⟨fun _ => ⟨rfl, rfl⟩, fun _ h => by cases h⟩
/-- what a call that returns a digest in a fresh variable comes to -/
theorem dig_ret {fn : Func} {a : Act} {w W : World} {p : Tmp} {d : List Nat} (h : fn.results = #[.cell p 25]) (hd : d.length = 32) (hp : a.tmps.getD p undef = .pointer (some ⟨w.heap.size, 0, none⟩)) (hdf : a.defers = [])
    (hE : Blk W w.heap.size 25 (u8s (zer 32))) (hB : Below w.heap.size w W) : bodyPost Tryd.prog fn (fun e w' => e = .returned (.agg (u8s d)) ∧ Below w.heap.size w w') .ret a (W.setRow w.heap.size (u8s d)) :=
  bodyPost_ret (v := .agg (u8s d)) (results_cell_row h _ _ w.heap.size 25 _ (0, 0) _ hp (hE.setRow _) Tryd.underlying25 rfl (size25 _ hd)) hdf ⟨rfl, below_setRow' hB (Nat.le_refl _) _⟩
set_option maxRecDepth 100000 in
set_option maxHeartbeats 2000000 in
theorem rootof_any : ∀ (n : Nat) (ps : List (List Nat)) (w : World) (A : Option Addr) (cap : Nat), ps.length = n → n ≤ 100000 → n ≤ cap → cap ≤ 9223372036854775807 → Tabs w → PL w A ps →
    Calls Tryd.prog 74 #[.slice A n cap] w fun e w' => e = .returned (.agg (u8s (mrootL ps))) ∧ Below w.heap.size w w' := by
  intro n
  induction n using Nat.strongRecOn with
  | ind n ih =>
    intro ps w A cap hl hn hcap hcm hT hP
    have IH := Lib.hid ih
    clear ih
    have E0 := Blk.new w 25 (u8s (zer 32))
    have B0 := (Below.refl w.heap.size w).alloc (Nat.le_refl _) (.cells (u8s (zer 32)) 25)
    have S0 : At w (w.alloc (.cells (u8s (zer 32)) 25)) := ⟨hT, B0⟩
    have HE := Lib.hid (And.intro E0 (And.intro S0 hP))
    have hd := mrootL_length ps
    have two := hT.two
    rcases Nat.lt_or_ge n 2 with h2 | h2
    · rcases Nat.eq_zero_or_pos n with h0 | h0
      · subst h0
        have hr : mrootL ps = sha [] := mrootL_zero ps hl
        have HS := Lib.hid (fun W (hT : Tabs W) => sum_any W hT [] none 0 (by simp) Bytes.nil ((rw_nil W).rb (Nat.le_refl _)) (by simp))
        rw [← hr] at HS
        clear hr E0 B0 S0 hP hT hl
        generalize mrootL ps = d at *
        go_enter Tryd.func74, Tryd.ntmps74
        go_wp2_with fail
        refine (HS.out _ HE.out.2.1.t).mono ?_
        rintro e w1 ⟨rfl, B1⟩
        have H1 := Lib.hid (And.intro (HE.out.1.below B1 HE.out.1.lt) (HE.out.2.1.step B1))
        have s1 := store25_run H1.out.1 rfl hd
        clear B1
        go_wp2_with fail
        exact dig_ret rfl hd rfl rfl H1.out.1 H1.out.2.b
      · obtain rfl : n = 1 := by omega
        have hr : mrootL ps = leafL (ps.getD 0 []) := mrootL_one ps hl
        rcases hP with hnil | ⟨g, off, rfl, hg, hc⟩
        · rw [hnil] at hl; simp at hl
        obtain ⟨Aj, cj, c1, c2, c3, c4, c5⟩ := hc 0 (by omega)
        rw [Nat.add_zero] at c1
        obtain ⟨x, hx⟩ : ∃ x, (ps.getD 0 []).length = x := ⟨_, rfl⟩
        rw [hx] at c1 c2 c3
        have HS := Lib.hid (fun W (s : At w W) => leafhash_any W s.t (ps.getD 0 []) Aj x cj hx c2 (by omega) c4 (c5.below s.b))
        rw [← hr] at HS
        have d1 := (S0.b.cell (p := ⟨g, off, none⟩) hg).trans c1
        clear hr E0 B0 S0 hT hl hc d1 c2 c3 c4 c5 hx
        generalize mrootL ps = d at *
        go_enter Tryd.func74, Tryd.ntmps74
        go_wp2_with fail
        refine (HS.out _ HE.out.2.1).mono ?_
        rintro e w1 ⟨rfl, B1⟩
        have H1 := Lib.hid (And.intro (HE.out.1.below B1 HE.out.1.lt) (HE.out.2.1.step B1))
        have s1 := store25_run H1.out.1 rfl hd
        clear B1 c1
        go_wp2_with fail
        exact dig_ret rfl hd rfl rfl H1.out.1 H1.out.2.b
    · have hk := splitL_bd n h2
      have hr : mrootL ps = nodeL (mrootL (ps.take (splitL n))) (mrootL (ps.drop (splitL n))) := by rw [← hl]; exact mrootL_node ps (by omega)
      have HK := Lib.hid (fun W => msplit_any n (by omega) W)
      generalize splitL n = k at *
      rcases hP with hnil | ⟨g, off, rfl, hg, hc⟩
      · rw [hnil] at hl; simp at hl; omega
      have hP : PL w (some ⟨g, off, none⟩) ps := .inr ⟨g, off, rfl, hg, hc⟩
      have h1 := fun W (s : At w W) => IH.out k (by omega) (ps.take k) W (some ⟨g, off, none⟩) cap (by rw [List.length_take]; omega) (by omega) (by omega) hcm s.t ((hP.below s.b).take k)
      have h2' := fun W (s : At w W) => IH.out (n - k) (by omega) (ps.drop k) W (some ⟨g, off + k, none⟩) (cap - k) (by rw [List.length_drop]; omega) (by omega) (by omega) (by omega) s.t ((hP.below s.b).drop k)
      have h3 := fun W (s : At w W) => nodehash_any W s.t (mrootL (ps.take k)) (mrootL (ps.drop k)) (mrootL_length _) (mrootL_length _) (mrootL_bytes _) (mrootL_bytes _)
      rw [← hr] at h3
      have H1 := Lib.hid (And.intro h1 (And.intro h2' h3))
      clear h1 h2' h3 hr hP hc E0 B0 S0 hT hl
      generalize mrootL (ps.take k) = da at *
      generalize mrootL (ps.drop k) = db at *
      generalize mrootL ps = d at *
      have s1 := fun W => sl41_h g off n cap k (by omega) W
      have s2 := fun W => sl41_l g off n cap k (by omega) hcap W
      have t0 : ((n : Int) == 0) = false := by rw [beq_eq_false_iff_ne]; omega
      have t1 : ((n : Int) == 1) = false := by rw [beq_eq_false_iff_ne]; omega
      go_enter Tryd.func74, Tryd.ntmps74
      go_wp2_with fail
      refine (HK.out _).mono ?_
      rintro e w1 ⟨rfl, rfl⟩
      go_wp2_with fail
      refine wp_region_sego [0, 0, 0, 1, 0, 0, 0, 3, 5, 7] [false, true, true, true] (by kernel_rfl) (by kernel_rfl) (fun _ _ d _ _ h => by cases d <;> exact h) (sego_go fun K0 hK0 => ?_)
      simp only [pickC, ↓reduceIte, Nat.reduceEqDiff, Nat.reduceAdd]
      go_wp2_with fail
      refine hK0.out _ (sego_act fun K2 hK2 => ?_)
      clear hK0 K0
      simp only [pickC, ↓reduceIte, Nat.reduceEqDiff, Nat.reduceAdd]
      go_wp2_with fail
      refine (H1.out.1 _ HE.out.2.1.drew).mono ?_
      rintro e w2 ⟨rfl, B2⟩
      have H2 := Lib.hid (And.intro (HE.out.1.drew.below B2 HE.out.1.drew.lt) (HE.out.2.1.drew.step B2))
      go_wp2_with fail
      refine hK2.out _ _ B2 (sego_last fun K0 hK0 => ?_)
      clear hK2 K2 B2
      simp only [pickC, ↓reduceIte, Nat.reduceEqDiff, Nat.reduceAdd]
      go_wp2_with fail
      refine hK0.out _ (sego_do fun K2 hK2 => ?_)
      clear hK0 K0
      simp only [pickC, ↓reduceIte, Nat.reduceEqDiff, Nat.reduceAdd]
      go_wp2_with fail
      refine (H1.out.2.1 _ H2.out.2).mono ?_
      rintro e w3 ⟨rfl, B3⟩
      have H3 := Lib.hid (And.intro (H2.out.1.below B3 H2.out.1.lt) (H2.out.2.step B3))
      clear B3
      go_wp2_with fail
      refine hK2.out _ _ (sego_last fun K0 hK0 => ?_)
      clear hK2 K2
      simp only [pickC, ↓reduceIte, Nat.reduceEqDiff, Nat.reduceAdd]
      go_wp2_with fail
      refine hK0.out _ (sego_do fun K2 hK2 => ?_)
      clear hK0 K0
      simp only [pickC, ↓reduceIte, Nat.reduceEqDiff, Nat.reduceAdd]
      go_wp2_with fail
      refine (H1.out.2.2 _ H3.out.2).mono ?_
      rintro e w4 ⟨rfl, B4⟩
      have H4 := Lib.hid (And.intro (H3.out.1.below B4 H3.out.1.lt) (H3.out.2.step B4))
      clear B4
      have s4 := store25_run H4.out.1 rfl hd
      go_wp2_with fail
      refine hK2.out _ _ (sego_last fun K0 hK0 => ?_)
      clear hK2 K2
      simp only [pickC, ↓reduceIte, Nat.reduceEqDiff, Nat.reduceAdd]
      go_wp2_with fail
      refine hK0.out _ (sego_do fun K2 hK2 => ?_)
      clear hK0 K0
      simp only [pickC, ↓reduceIte, Nat.reduceEqDiff, Nat.reduceAdd]
      go_wp2_with fail
      refine hK2.out _ _ (sego_end fun K0 hK0 => ?_)
      clear hK2 K2
      simp only [pickC, ↓reduceIte, Nat.reduceEqDiff, Nat.reduceAdd]
      go_wp2_with fail
      refine hK0.out _ ?_
      clear hK0 K0
      go_wp2_with fail
      exact dig_ret rfl hd rfl rfl H4.out.1 H4.out.2.b
end Go.Proofs.YtediocpdpghbfaaDoor
