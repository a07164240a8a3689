/- Merkle: Prove of the program: its closure. -/
import Derived.Test.YtediocpdpghbfaaDoorMhsh
set_option linter.unusedSimpArgs false
set_option linter.unusedVariables false
namespace Go.Proofs.YtediocpdpghbfaaDoor
open Go Go.RowKit

/-! ### plain -/
def proveF : Nat → List (List Nat) → Nat → List (List Nat)
  | 0, _, _ => []
  | f + 1, l, i => if l.length ≤ 1 then [] else if i < splitL l.length then proveF f (l.take (splitL l.length)) i ++ [mrootL (l.drop (splitL l.length))] else proveF f (l.drop (splitL l.length)) (i - splitL l.length) ++ [mrootL (l.take (splitL l.length))]
def proveL (l : List (List Nat)) (i : Nat) : List (List Nat) := proveF l.length l i
theorem proveF_fuel : ∀ (f : Nat) (l : List (List Nat)) (i : Nat), l.length ≤ f → proveF f l i = proveL l i := by
  intro f
  induction f using Nat.strongRecOn with
  | ind f ih =>
    intro l i hl
    cases f with
    | zero =>
      have : l.length = 0 := by omega
      unfold proveL; rw [this]
    | succ f =>
      unfold proveL
      rcases Nat.lt_or_ge l.length 2 with h2 | h2
      · unfold proveF
        rw [if_pos (by omega)]
        cases hm : l.length with
        | zero => rfl
        | succ m => simp only; rw [if_pos (by omega)]
      · obtain ⟨m, hm⟩ : ∃ m, l.length = m + 1 := ⟨l.length - 1, by omega⟩
        have hs := splitL_bd l.length h2
        rw [show proveF l.length l i = proveF (m + 1) l i by rw [hm]]
        unfold proveF
        have hno : ¬ l.length ≤ 1 := by omega
        simp only [hno, if_false]
        have t1 : (l.take (splitL l.length)).length ≤ m := by rw [List.length_take]; omega
        have t2 : (l.drop (splitL l.length)).length ≤ m := by rw [List.length_drop]; omega
        have hmf : m < f + 1 := by omega
        rw [ih f (Nat.lt_succ_self f) (l.take (splitL l.length)) i (by omega), ih f (Nat.lt_succ_self f) (l.drop (splitL l.length)) (i - splitL l.length) (by omega), ih m hmf (l.take (splitL l.length)) i t1, ih m hmf (l.drop (splitL l.length)) (i - splitL l.length) t2]
theorem proveL_one (l : List (List Nat)) (i : Nat) (h : l.length ≤ 1) : proveL l i = [] := by
  unfold proveL
  cases hm : l.length with
  | zero => rfl
  | succ m => unfold proveF; rw [if_pos (by omega)]
theorem proveL_node (l : List (List Nat)) (i : Nat) (h : 2 ≤ l.length) : proveL l i = if i < splitL l.length then proveL (l.take (splitL l.length)) i ++ [mrootL (l.drop (splitL l.length))] else proveL (l.drop (splitL l.length)) (i - splitL l.length) ++ [mrootL (l.take (splitL l.length))] := by
  obtain ⟨m, hm⟩ : ∃ m, l.length = m + 1 := ⟨l.length - 1, by omega⟩
  have hs := splitL_bd l.length h
  conv => lhs; unfold proveL; rw [hm]; unfold proveF
  rw [if_neg (by omega), proveF_fuel m _ _ (by rw [List.length_take]; omega), proveF_fuel m _ _ (by rw [List.length_drop]; omega)]
theorem proveL_digs : ∀ (n : Nat) (l : List (List Nat)) (i : Nat), l.length = n → Digs (proveL l i) ∧ (proveL l i).length ≤ n := by
  intro n
  induction n using Nat.strongRecOn with
  | ind n ih =>
    intro l i hl
    rcases Nat.lt_or_ge n 2 with h2 | h2
    · rw [proveL_one l i (by omega)]; exact ⟨Digs.nil, Nat.zero_le _⟩
    · have hs := splitL_bd l.length (by omega)
      rw [proveL_node l i (by omega)]
      split
      · obtain ⟨a, b⟩ := ih (splitL l.length) (by omega) (l.take (splitL l.length)) i (by rw [List.length_take]; omega)
        exact ⟨a.snoc (mrootL_length _) (mrootL_bytes _), by rw [List.length_append, List.length_singleton]; omega⟩
      · obtain ⟨a, b⟩ := ih (n - splitL l.length) (by omega) (l.drop (splitL l.length)) (i - splitL l.length) (by rw [List.length_drop]; omega)
        exact ⟨a.snoc (mrootL_length _) (mrootL_bytes _), by rw [List.length_append, List.length_singleton]; omega⟩

/-! ### the closure -/
/-- the function value in the variable walk -/
def fn77 (wv pv : Nat) : Value := .func (.func 77) #[] #[.pointer (some ⟨wv, 0, none⟩), .pointer (some ⟨pv, 0, none⟩)]
/-- what the closure finds: its two variables, the digests collected -/
structure PrvSt (W0 w : World) (wv pv : Nat) (m : Nat) (hs : List (List Nat)) : Prop where
  at_ : At W0 w
  bw : W0.heap.size ≤ wv
  bp : W0.heap.size ≤ pv
  ne : wv ≠ pv
  ew : Blk w wv 115 #[fn77 wv pv]
  ep : ∃ Ap cp, Blk w pv 67 #[.slice Ap m cp] ∧ OH w (max wv pv + 1) Ap m cp hs
theorem PrvSt.drew {W0 w : World} {wv pv m : Nat} {hs : List (List Nat)} (h : PrvSt W0 w wv pv m hs) : PrvSt W0 w.drew wv pv m hs :=
  ⟨h.at_.drew, h.bw, h.bp, h.ne, h.ew.drew, let ⟨Ap, cp, a, b⟩ := h.ep; ⟨Ap, cp, a.drew, b.drew⟩⟩
theorem PrvSt.below {W0 w w' : World} {wv pv m : Nat} {hs : List (List Nat)} (h : PrvSt W0 w wv pv m hs) (hb : Below w.heap.size w w') : PrvSt W0 w' wv pv m hs :=
  ⟨h.at_.step hb, h.bw, h.bp, h.ne, h.ew.below hb h.ew.lt, let ⟨Ap, cp, a, b⟩ := h.ep; ⟨Ap, cp, a.below hb a.lt, b.below hb⟩⟩
theorem PrvSt.cell5 {W0 w4 w5 : World} {wv pv m : Nat} {hs : List (List Nat)} (h : PrvSt W0 w4 wv pv m hs) (B : Below (max wv pv + 1) w4 w5) : ∃ v, Blk w5 pv 67 #[v] := by
  obtain ⟨Ap, cp, a, b⟩ := h.ep
  exact ⟨_, a.below B (by omega)⟩
theorem PrvSt.stored {W0 w4 w5 : World} {wv pv m : Nat} {hs hs' : List (List Nat)} {A' : Option Addr} {m' c' : Nat} (h : PrvSt W0 w4 wv pv m hs) (B : Below (max wv pv + 1) w4 w5) (O : OH w5 (max wv pv + 1) A' m' c' hs') :
    PrvSt W0 (w5.setCell ⟨pv, 0, none⟩ (.slice A' m' c')) wv pv m' hs' := by
  have b1 := h.bw
  have b2 := h.bp
  obtain ⟨Ap, cp, a, b⟩ := h.ep
  have a5 := a.below B (by omega)
  refine ⟨⟨h.at_.t0, (h.at_.b.trans (B.mono (by omega))).setCell (by exact h.bp) _⟩, h.bw, h.bp, h.ne, (h.ew.below B (by omega)).far h.ne _, A', c', ?_, O.setCell (by simp; omega) _⟩
  have := a5.set_ 0 (.slice A' m' c')
  simpa using this
attribute [local go_sem ↓] bs67_rule
attribute [local go_sem] bs67_run
set_option maxRecDepth 100000 in
set_option maxHeartbeats 800000 in
theorem walk77 (W0 : World) (wv pv : Nat) : ∀ (n : Nat) (ps : List (List Nat)) (i : Nat) (A : Option Addr) (cap : Nat) (w : World) (m : Nat) (hs : List (List Nat)), ps.length = n → 1 ≤ n → n ≤ 65536 → n ≤ cap → cap ≤ 9223372036854775807 → i < n → m ≤ 100000 →
    PL W0 A ps → PrvSt W0 w wv pv m hs →
    Calls Tryd.prog 77 #[.slice A n cap, .int .i64 i, .pointer (some ⟨wv, 0, none⟩), .pointer (some ⟨pv, 0, none⟩)] w fun e w' => e = .returned (.tuple #[]) ∧ PrvSt W0 w' wv pv (m + (proveL ps i).length) (hs ++ proveL ps i) := by
  intro n
  induction n using Nat.strongRecOn with
  | ind n ih =>
    intro ps i A cap w m hs hl h1 hn hcap hcm hi hm hP hS
    have IH := Lib.hid ih
    clear ih
    have HS := Lib.hid hS
    clear hS
    rcases Nat.lt_or_ge n 2 with h2 | h2
    · obtain rfl : n = 1 := by omega
      have hp := proveL_one ps i (by omega)
      rw [hp]
      clear hp hl hP
      go_enter Tryd.func77, Tryd.ntmps77
      go_wp2_with fail
      exact bodyPost_ret (results_none rfl _ _ _) rfl ⟨rfl, by simpa using HS.out⟩
    · have hk := splitL_bd n h2
      have hpn := proveL_node ps i (by omega)
      rw [hl] at hpn
      have HK := Lib.hid (fun W => msplit_any n (by omega) W)
      generalize splitL n = k at *
      rcases hP with hnil | ⟨g, off, rfl, hg, hc⟩
      · rw [hnil] at hl; simp at hl; omega
      have hP : PL W0 (some ⟨g, off, none⟩) ps := .inr ⟨g, off, rfl, hg, hc⟩
      clear hc hg
      have s1 := fun W => sl41_h g off n cap k (by omega) W
      have s2 := fun W => sl41_l g off n cap k (by omega) hcap W
      have t1 : ((n : Int) == 1) = false := by rw [beq_eq_false_iff_ne]; omega
      have HP := Lib.hid (And.intro hP hl)
      clear hP hl
      by_cases hik : i < k
      · rw [if_pos hik] at hpn
        have HN := Lib.hid hpn
        clear hpn
        have cw := HS.out.drew.ew.cell 0
        simp only [fn77] at cw
        go_enter Tryd.func77, Tryd.ntmps77
        go_wp2_with fail
        refine (HK.out _).mono ?_
        rintro e w1 ⟨rfl, rfl⟩
        go_wp2_with fail
        refine wp_region_sego [0, 0, 0, 0, 0, 1] [true] (by kernel_rfl) (by kernel_rfl) (fun _ _ d _ _ h => by cases d <;> exact h) (sego_last fun K0 hK0 => ?_)
        simp only [pickC, ↓reduceIte, Nat.reduceEqDiff, Nat.reduceAdd]
        go_wp2_with fail
        refine hK0.out _ (sego_do fun K2 hK2 => ?_)
        clear hK0 K0
        simp only [pickC, ↓reduceIte, Nat.reduceEqDiff, Nat.reduceAdd]
        go_wp2_with fail
        refine (IH.out k (by omega) (ps.take k) i _ cap _ m hs (by rw [List.length_take]; have := HP.out.2; omega) (by omega) (by omega) (by omega) hcm hik hm (HP.out.1.take k) HS.out.drew).mono ?_
        rintro e w2 ⟨rfl, S2⟩
        have H2 := Lib.hid S2
        clear S2 cw
        go_wp2_with fail
        refine hK2.out _ _ (sego_end fun K0 hK0 => ?_)
        clear hK2 K2
        simp only [pickC, ↓reduceIte, Nat.reduceEqDiff, Nat.reduceAdd]
        go_wp2_with fail
        refine hK0.out _ ?_
        clear hK0 K0
        go_wp2_with fail
        have hlen : (proveL (ps.take k) i).length ≤ 65536 := by have := (proveL_digs k (ps.take k) i (by rw [List.length_take]; have := HP.out.2; omega)).2; omega
        obtain ⟨Ap2, cp2, Ep2, Oh2⟩ := H2.out.ep
        have cq := Ep2.drew.cell 0
        have HO2 := Lib.hid (And.intro Ep2 Oh2)
        clear Ep2 Oh2
        have hd := mrootL_length (ps.drop k)
        have hdb := mrootL_bytes (ps.drop k)
        have HR := Lib.hid (fun W (s : At W0 W) => rootof_any (n - k) (ps.drop k) W (some ⟨g, off + k, none⟩) (cap - k) (by rw [List.length_drop]; have := HP.out.2; omega) (by omega) (by omega) (by omega) s.t ((HP.out.1.below s.b).drop k))
        generalize mrootL (ps.drop k) = d at *
        have HB := Lib.hid hdb
        clear hdb
        refine wp_region_sego [0, 0, 0, 0, 1, 3, 5, 7] [false, false, true, true] (by kernel_rfl) (by kernel_rfl) (fun _ _ d _ _ h => by cases d <;> exact h) (sego_go fun K0 hK0 => ?_)
        simp only [pickC, ↓reduceIte, Nat.reduceEqDiff, Nat.reduceAdd]
        go_wp2_with fail
        refine hK0.out _ (sego_act fun K2 hK2 => ?_)
        clear hK0 K0
        simp only [pickC, ↓reduceIte, Nat.reduceEqDiff, Nat.reduceAdd]
        go_wp2_with fail
        refine (HR.out _ H2.out.drew.at_).mono ?_
        rintro e w3 ⟨rfl, hBelow⟩
        have H3 := Lib.hid (And.intro (H2.out.drew.below hBelow) (HO2.out.2.drew.below hBelow))
        go_wp2_with fail
        refine hK2.out _ _ hBelow (sego_go fun K0 hK0 => ?_)
        clear hK2 K2 hBelow
        simp only [pickC, ↓reduceIte, Nat.reduceEqDiff, Nat.reduceAdd]
        go_wp2_with fail
        refine hK0.out _ (sego_act fun K2 hK2 => ?_)
        clear hK0 K0
        simp only [pickC, ↓reduceIte, Nat.reduceEqDiff, Nat.reduceAdd]
        go_wp2_with fail
        have H4 := Lib.hid (And.intro (H3.out.1.below (((Below.refl _ _).alloc (Nat.le_refl _) (.cells (u8s d) 25)))) (And.intro (H3.out.2.below (((Below.refl _ _).alloc (Nat.le_refl _) (.cells (u8s d) 25)))) (Blk.new w3 25 (u8s d))))
        go_wp2_with fail
        refine hK2.out _ _ ((Below.refl _ _).alloc (Nat.le_refl _) _) (sego_last fun K0 hK0 => ?_)
        clear hK2 K2
        simp only [pickC, ↓reduceIte, Nat.reduceEqDiff, Nat.reduceAdd]
        go_wp2_with fail
        refine hK0.out _ (sego_do fun K2 hK2 => ?_)
        clear hK0 K0
        simp only [pickC, ↓reduceIte, Nat.reduceEqDiff, Nat.reduceAdd]
        refine wpList_apph rfl (.tmp 22) (.tmp 27) rfl (max wv pv + 1) _ _ _ _ rfl H4.out.2.1 w3.heap.size d rfl H4.out.2.2 hd HB.out (by omega) (by have := H4.out.1.ew.lt; obtain ⟨_, _, q, _⟩ := H4.out.1.ep; have := q.lt; omega) ?_
        intro A5 c5 w5 O5 B5
        obtain ⟨v5, E5⟩ := H4.out.1.cell5 B5
        have f5 := E5.frozen 0
        have c5' := E5.cell 0
        have H5 := Lib.hid (And.intro (H4.out.1.stored B5 O5) E5)
        clear O5 B5 E5 cq
        go_wp2_with fail
        refine hK2.out _ _ (sego_last fun K0 hK0 => ?_)
        clear hK2 K2
        simp only [pickC, ↓reduceIte, Nat.reduceEqDiff, Nat.reduceAdd]
        go_wp2_with fail
        refine hK0.out _ (sego_do fun K2 hK2 => ?_)
        clear hK0 K0
        simp only [pickC, ↓reduceIte, Nat.reduceEqDiff, Nat.reduceAdd]
        go_wp2_with fail
        refine hK2.out _ _ (sego_end fun K0 hK0 => ?_)
        clear hK2 K2
        simp only [pickC, ↓reduceIte, Nat.reduceEqDiff, Nat.reduceAdd]
        go_wp2_with fail
        refine hK0.out _ ?_
        clear hK0 K0
        go_wp2_with fail
        refine bodyPost_ret (results_none rfl _ _ _) rfl ⟨rfl, ?_⟩
        have h5 := H5.out.1
        rw [HN.out, ← List.append_assoc, List.length_append, List.length_singleton, ← Nat.add_assoc]
        exact h5
      · rw [if_neg hik] at hpn
        have HN := Lib.hid hpn
        clear hpn
        have cw := HS.out.drew.ew.cell 0
        simp only [fn77] at cw
        have ei : ((i - k : Nat) : Int) = (i : Int) - (k : Int) := by omega
        go_enter Tryd.func77, Tryd.ntmps77
        go_wp2_with fail
        refine (HK.out _).mono ?_
        rintro e w1 ⟨rfl, rfl⟩
        go_wp2_with fail
        refine wp_region_sego [0, 0, 0, 0, 0, 0, 0, 1] [true] (by kernel_rfl) (by kernel_rfl) (fun _ _ d _ _ h => by cases d <;> exact h) (sego_last fun K0 hK0 => ?_)
        simp only [pickC, ↓reduceIte, Nat.reduceEqDiff, Nat.reduceAdd]
        go_wp2_with fail
        refine hK0.out _ (sego_do fun K2 hK2 => ?_)
        clear hK0 K0
        simp only [pickC, ↓reduceIte, Nat.reduceEqDiff, Nat.reduceAdd]
        go_wp2_with fail
        have hIH := IH.out (n - k) (by omega) (ps.drop k) (i - k) _ (cap - k) _ m hs (by rw [List.length_drop]; have := HP.out.2; omega) (by omega) (by omega) (by omega) (by omega) (by omega) hm (HP.out.1.drop k) HS.out.drew
        rw [ei] at hIH
        refine hIH.mono ?_
        clear hIH ei
        rintro e w2 ⟨rfl, S2⟩
        have H2 := Lib.hid S2
        clear S2 cw
        go_wp2_with fail
        refine hK2.out _ _ (sego_end fun K0 hK0 => ?_)
        clear hK2 K2
        simp only [pickC, ↓reduceIte, Nat.reduceEqDiff, Nat.reduceAdd]
        go_wp2_with fail
        refine hK0.out _ ?_
        clear hK0 K0
        go_wp2_with fail
        have hlen : (proveL (ps.drop k) (i - k)).length ≤ 65536 := by have := (proveL_digs (n - k) (ps.drop k) (i - k) (by rw [List.length_drop]; have := HP.out.2; omega)).2; omega
        obtain ⟨Ap2, cp2, Ep2, Oh2⟩ := H2.out.ep
        have cq := Ep2.drew.cell 0
        have HO2 := Lib.hid (And.intro Ep2 Oh2)
        clear Ep2 Oh2
        have hd := mrootL_length (ps.take k)
        have hdb := mrootL_bytes (ps.take k)
        have HR := Lib.hid (fun W (s : At W0 W) => rootof_any (k) (ps.take k) W (some ⟨g, off, none⟩) cap (by rw [List.length_take]; have := HP.out.2; omega) (by omega) (by omega) (by omega) s.t ((HP.out.1.below s.b).take k))
        generalize mrootL (ps.take k) = d at *
        have HB := Lib.hid hdb
        clear hdb
        refine wp_region_sego [0, 0, 0, 0, 1, 3, 5, 7] [false, false, true, true] (by kernel_rfl) (by kernel_rfl) (fun _ _ d _ _ h => by cases d <;> exact h) (sego_go fun K0 hK0 => ?_)
        simp only [pickC, ↓reduceIte, Nat.reduceEqDiff, Nat.reduceAdd]
        go_wp2_with fail
        refine hK0.out _ (sego_act fun K2 hK2 => ?_)
        clear hK0 K0
        simp only [pickC, ↓reduceIte, Nat.reduceEqDiff, Nat.reduceAdd]
        go_wp2_with fail
        refine (HR.out _ H2.out.drew.at_).mono ?_
        rintro e w3 ⟨rfl, hBelow⟩
        have H3 := Lib.hid (And.intro (H2.out.drew.below hBelow) (HO2.out.2.drew.below hBelow))
        go_wp2_with fail
        refine hK2.out _ _ hBelow (sego_go fun K0 hK0 => ?_)
        clear hK2 K2 hBelow
        simp only [pickC, ↓reduceIte, Nat.reduceEqDiff, Nat.reduceAdd]
        go_wp2_with fail
        refine hK0.out _ (sego_act fun K2 hK2 => ?_)
        clear hK0 K0
        simp only [pickC, ↓reduceIte, Nat.reduceEqDiff, Nat.reduceAdd]
        go_wp2_with fail
        have H4 := Lib.hid (And.intro (H3.out.1.below (((Below.refl _ _).alloc (Nat.le_refl _) (.cells (u8s d) 25)))) (And.intro (H3.out.2.below (((Below.refl _ _).alloc (Nat.le_refl _) (.cells (u8s d) 25)))) (Blk.new w3 25 (u8s d))))
        go_wp2_with fail
        refine hK2.out _ _ ((Below.refl _ _).alloc (Nat.le_refl _) _) (sego_last fun K0 hK0 => ?_)
        clear hK2 K2
        simp only [pickC, ↓reduceIte, Nat.reduceEqDiff, Nat.reduceAdd]
        go_wp2_with fail
        refine hK0.out _ (sego_do fun K2 hK2 => ?_)
        clear hK0 K0
        simp only [pickC, ↓reduceIte, Nat.reduceEqDiff, Nat.reduceAdd]
        refine wpList_apph rfl (.tmp 37) (.tmp 42) rfl (max wv pv + 1) _ _ _ _ rfl H4.out.2.1 w3.heap.size d rfl H4.out.2.2 hd HB.out (by omega) (by have := H4.out.1.ew.lt; obtain ⟨_, _, q, _⟩ := H4.out.1.ep; have := q.lt; omega) ?_
        intro A5 c5 w5 O5 B5
        obtain ⟨v5, E5⟩ := H4.out.1.cell5 B5
        have f5 := E5.frozen 0
        have c5' := E5.cell 0
        have H5 := Lib.hid (And.intro (H4.out.1.stored B5 O5) E5)
        clear O5 B5 E5 cq
        go_wp2_with fail
        refine hK2.out _ _ (sego_last fun K0 hK0 => ?_)
        clear hK2 K2
        simp only [pickC, ↓reduceIte, Nat.reduceEqDiff, Nat.reduceAdd]
        go_wp2_with fail
        refine hK0.out _ (sego_do fun K2 hK2 => ?_)
        clear hK0 K0
        simp only [pickC, ↓reduceIte, Nat.reduceEqDiff, Nat.reduceAdd]
        go_wp2_with fail
        refine hK2.out _ _ (sego_end fun K0 hK0 => ?_)
        clear hK2 K2
        simp only [pickC, ↓reduceIte, Nat.reduceEqDiff, Nat.reduceAdd]
        go_wp2_with fail
        refine hK0.out _ ?_
        clear hK0 K0
        go_wp2_with fail
        go_end0
        refine ⟨rfl, ?_⟩
        have h5 := H5.out.1
        rw [HN.out, ← List.append_assoc, List.length_append, List.length_singleton, ← Nat.add_assoc]
        exact h5
end Go.Proofs.YtediocpdpghbfaaDoor
