/- Merkle: Prove of the program: its closure. Merkle: Prove of the program. Merkle: ProveConsistency of the program: its closure. Merkle: ProveConsistency of the program. Merkle: the plain law of proofs: the sides of a path, the fold of a proof, and that a proof folds to the root. Merkle: the plain law of consistency proofs. -/
import Derived.Test.YtediocpdpghbfaaDoorMerP
import Derived.Laws.EntriesVeiled
set_option linter.unusedSimpArgs false
set_option linter.unusedVariables false
namespace Go.Proofs.YtediocpdpghbfaaDoor
open Go Go.RowKit

/-! ### plain -/
def proveF : Nat → List (List Nat) → Nat → List (List Nat)
  | 0, _, _ => []
  | f + 1, l, i => if l.length ≤ 1 then [] else if i < splitL l.length then proveF f (l.take (splitL l.length)) i ++ [mrootL (l.drop (splitL l.length))] else proveF f (l.drop (splitL l.length)) (i - splitL l.length) ++ [mrootL (l.take (splitL l.length))]
def proveL (l : List (List Nat)) (i : Nat) : List (List Nat) := proveF l.length l i
theorem proveF_fuel : ∀ (f : Nat) (l : List (List Nat)) (i : Nat), l.length ≤ f → proveF f l i = proveL l i := by
  intro f
  induction f using Nat.strongRecOn with
  | ind f ih =>
    intro l i hl
    cases f with
    | zero =>
      have : l.length = 0 := by omega
      unfold proveL; rw [this]
    | succ f =>
      unfold proveL
      rcases Nat.lt_or_ge l.length 2 with h2 | h2
      · unfold proveF
        rw [if_pos (by omega)]
        cases hm : l.length with
        | zero => rfl
        | succ m => simp only; rw [if_pos (by omega)]
      · obtain ⟨m, hm⟩ : ∃ m, l.length = m + 1 := ⟨l.length - 1, by omega⟩
        have hs := splitL_bd l.length h2
        rw [show proveF l.length l i = proveF (m + 1) l i by rw [hm]]
        unfold proveF
        have hno : ¬ l.length ≤ 1 := by omega
        simp only [hno, if_false]
        have t1 : (l.take (splitL l.length)).length ≤ m := by rw [List.length_take]; omega
        have t2 : (l.drop (splitL l.length)).length ≤ m := by rw [List.length_drop]; omega
        have hmf : m < f + 1 := by omega
        rw [ih f (Nat.lt_succ_self f) (l.take (splitL l.length)) i (by omega), ih f (Nat.lt_succ_self f) (l.drop (splitL l.length)) (i - splitL l.length) (by omega), ih m hmf (l.take (splitL l.length)) i t1, ih m hmf (l.drop (splitL l.length)) (i - splitL l.length) t2]
theorem proveL_one (l : List (List Nat)) (i : Nat) (h : l.length ≤ 1) : proveL l i = [] := by
  unfold proveL
  cases hm : l.length with
  | zero => rfl
  | succ m => unfold proveF; rw [if_pos (by omega)]
theorem proveL_node (l : List (List Nat)) (i : Nat) (h : 2 ≤ l.length) : proveL l i = if i < splitL l.length then proveL (l.take (splitL l.length)) i ++ [mrootL (l.drop (splitL l.length))] else proveL (l.drop (splitL l.length)) (i - splitL l.length) ++ [mrootL (l.take (splitL l.length))] := by
  obtain ⟨m, hm⟩ : ∃ m, l.length = m + 1 := ⟨l.length - 1, by omega⟩
  have hs := splitL_bd l.length h
  conv => lhs; unfold proveL; rw [hm]; unfold proveF
  rw [if_neg (by omega), proveF_fuel m _ _ (by rw [List.length_take]; omega), proveF_fuel m _ _ (by rw [List.length_drop]; omega)]
theorem proveL_digs : ∀ (n : Nat) (l : List (List Nat)) (i : Nat), l.length = n → Digs (proveL l i) ∧ (proveL l i).length ≤ n := by
  intro n
  induction n using Nat.strongRecOn with
  | ind n ih =>
    intro l i hl
    rcases Nat.lt_or_ge n 2 with h2 | h2
    · rw [proveL_one l i (by omega)]; exact ⟨Digs.nil, Nat.zero_le _⟩
    · have hs := splitL_bd l.length (by omega)
      rw [proveL_node l i (by omega)]
      split
      · obtain ⟨a, b⟩ := ih (splitL l.length) (by omega) (l.take (splitL l.length)) i (by rw [List.length_take]; omega)
        exact ⟨a.snoc (mrootL_length _) (mrootL_bytes _), by rw [List.length_append, List.length_singleton]; omega⟩
      · obtain ⟨a, b⟩ := ih (n - splitL l.length) (by omega) (l.drop (splitL l.length)) (i - splitL l.length) (by rw [List.length_drop]; omega)
        exact ⟨a.snoc (mrootL_length _) (mrootL_bytes _), by rw [List.length_append, List.length_singleton]; omega⟩

/-! ### the closure -/
/-- the function value in the variable walk -/
def fn77 (wv pv : Nat) : Value := .func (.func 77) #[] #[.pointer (some ⟨wv, 0, none⟩), .pointer (some ⟨pv, 0, none⟩)]
/-- what the closure finds: its two variables, the digests collected -/
structure PrvSt (W0 w : World) (wv pv : Nat) (m : Nat) (hs : List (List Nat)) : Prop where
  at_ : At W0 w
  bw : W0.heap.size ≤ wv
  bp : W0.heap.size ≤ pv
  ne : wv ≠ pv
  ew : Blk w wv 115 #[fn77 wv pv]
  ep : ∃ Ap cp, Blk w pv 67 #[.slice Ap m cp] ∧ OH w (max wv pv + 1) Ap m cp hs
theorem PrvSt.drew {W0 w : World} {wv pv m : Nat} {hs : List (List Nat)} (h : PrvSt W0 w wv pv m hs) : PrvSt W0 w.drew wv pv m hs :=
  ⟨h.at_.drew, h.bw, h.bp, h.ne, h.ew.drew, let ⟨Ap, cp, a, b⟩ := h.ep; ⟨Ap, cp, a.drew, b.drew⟩⟩
theorem PrvSt.below {W0 w w' : World} {wv pv m : Nat} {hs : List (List Nat)} (h : PrvSt W0 w wv pv m hs) (hb : Below w.heap.size w w') : PrvSt W0 w' wv pv m hs :=
  ⟨h.at_.step hb, h.bw, h.bp, h.ne, h.ew.below hb h.ew.lt, let ⟨Ap, cp, a, b⟩ := h.ep; ⟨Ap, cp, a.below hb a.lt, b.below hb⟩⟩
theorem PrvSt.cell5 {W0 w4 w5 : World} {wv pv m : Nat} {hs : List (List Nat)} (h : PrvSt W0 w4 wv pv m hs) (B : Below (max wv pv + 1) w4 w5) : ∃ v, Blk w5 pv 67 #[v] := by
  obtain ⟨Ap, cp, a, b⟩ := h.ep
  exact ⟨_, a.below B (by omega)⟩
theorem PrvSt.stored {W0 w4 w5 : World} {wv pv m : Nat} {hs hs' : List (List Nat)} {A' : Option Addr} {m' c' : Nat} (h : PrvSt W0 w4 wv pv m hs) (B : Below (max wv pv + 1) w4 w5) (O : OH w5 (max wv pv + 1) A' m' c' hs') :
    PrvSt W0 (w5.setCell ⟨pv, 0, none⟩ (.slice A' m' c')) wv pv m' hs' := by
  have b1 := h.bw
  have b2 := h.bp
  obtain ⟨Ap, cp, a, b⟩ := h.ep
  have a5 := a.below B (by omega)
  refine ⟨⟨h.at_.t0, (h.at_.b.trans (B.mono (by omega))).setCell (by exact h.bp) _⟩, h.bw, h.bp, h.ne, (h.ew.below B (by omega)).far h.ne _, A', c', ?_, O.setCell (by simp; omega) _⟩
  have := a5.set_ 0 (.slice A' m' c')
  simpa using this
attribute [local go_sem ↓] bs67_rule
attribute [local go_sem] bs67_run
set_option maxRecDepth 100000 in
set_option maxHeartbeats 800000 in
theorem walk77 (W0 : World) (wv pv : Nat) : ∀ (n : Nat) (ps : List (List Nat)) (i : Nat) (A : Option Addr) (cap : Nat) (w : World) (m : Nat) (hs : List (List Nat)), ps.length = n → 1 ≤ n → n ≤ 65536 → n ≤ cap → cap ≤ 9223372036854775807 → i < n → m ≤ 100000 →
    PL W0 A ps → PrvSt W0 w wv pv m hs →
    Calls Tryd.prog 77 #[.slice A n cap, .int .i64 i, .pointer (some ⟨wv, 0, none⟩), .pointer (some ⟨pv, 0, none⟩)] w fun e w' => e = .returned (.tuple #[]) ∧ PrvSt W0 w' wv pv (m + (proveL ps i).length) (hs ++ proveL ps i) := by
  intro n
  induction n using Nat.strongRecOn with
  | ind n ih =>
    intro ps i A cap w m hs hl h1 hn hcap hcm hi hm hP hS
    have IH := Lib.hid ih
    clear ih
    have HS := Lib.hid hS
    clear hS
    rcases Nat.lt_or_ge n 2 with h2 | h2
    · obtain rfl : n = 1 := by omega
      have hp := proveL_one ps i (by omega)
      rw [hp]
      clear hp hl hP
      go_enter Tryd.func77, Tryd.ntmps77
      go_wp2_with fail
      exact bodyPost_ret (results_none rfl _ _ _) rfl ⟨rfl, by simpa using HS.out⟩
    · have hk := splitL_bd n h2
      have hpn := proveL_node ps i (by omega)
      rw [hl] at hpn
      have HK := Lib.hid (fun W => msplit_any n (by omega) W)
      generalize splitL n = k at *
      rcases hP with hnil | ⟨g, off, rfl, hg, hc⟩
      · rw [hnil] at hl; simp at hl; omega
      have hP : PL W0 (some ⟨g, off, none⟩) ps := .inr ⟨g, off, rfl, hg, hc⟩
      clear hc hg
      have s1 := fun W => sl41_h g off n cap k (by omega) W
      have s2 := fun W => sl41_l g off n cap k (by omega) hcap W
      have t1 : ((n : Int) == 1) = false := by rw [beq_eq_false_iff_ne]; omega
      have HP := Lib.hid (And.intro hP hl)
      clear hP hl
      by_cases hik : i < k
      · rw [if_pos hik] at hpn
        have HN := Lib.hid hpn
        clear hpn
        have cw := HS.out.drew.ew.cell 0
        simp only [fn77] at cw
        go_enter Tryd.func77, Tryd.ntmps77
        go_wp2_with fail
        refine (HK.out _).mono ?_
        rintro e w1 ⟨rfl, rfl⟩
        go_wp2_with fail
        refine wp_region_sego [0, 0, 0, 0, 0, 1] [true] (by kernel_rfl) (by kernel_rfl) (fun _ _ d _ _ h => by cases d <;> exact h) (sego_last fun K0 hK0 => ?_)
        simp only [pickC, ↓reduceIte, Nat.reduceEqDiff, Nat.reduceAdd]
        go_wp2_with fail
        refine hK0.out _ (sego_do fun K2 hK2 => ?_)
        clear hK0 K0
        simp only [pickC, ↓reduceIte, Nat.reduceEqDiff, Nat.reduceAdd]
        go_wp2_with fail
        refine (IH.out k (by omega) (ps.take k) i _ cap _ m hs (by rw [List.length_take]; have := HP.out.2; omega) (by omega) (by omega) (by omega) hcm hik hm (HP.out.1.take k) HS.out.drew).mono ?_
        rintro e w2 ⟨rfl, S2⟩
        have H2 := Lib.hid S2
        clear S2 cw
        go_wp2_with fail
        refine hK2.out _ _ (sego_end fun K0 hK0 => ?_)
        clear hK2 K2
        simp only [pickC, ↓reduceIte, Nat.reduceEqDiff, Nat.reduceAdd]
        go_wp2_with fail
        refine hK0.out _ ?_
        clear hK0 K0
        go_wp2_with fail
        have hlen : (proveL (ps.take k) i).length ≤ 65536 := by have := (proveL_digs k (ps.take k) i (by rw [List.length_take]; have := HP.out.2; omega)).2; omega
        obtain ⟨Ap2, cp2, Ep2, Oh2⟩ := H2.out.ep
        have cq := Ep2.drew.cell 0
        have HO2 := Lib.hid (And.intro Ep2 Oh2)
        clear Ep2 Oh2
        have hd := mrootL_length (ps.drop k)
        have hdb := mrootL_bytes (ps.drop k)
        have HR := Lib.hid (fun W (s : At W0 W) => rootof_any (n - k) (ps.drop k) W (some ⟨g, off + k, none⟩) (cap - k) (by rw [List.length_drop]; have := HP.out.2; omega) (by omega) (by omega) (by omega) s.t ((HP.out.1.below s.b).drop k))
        generalize mrootL (ps.drop k) = d at *
        have HB := Lib.hid hdb
        clear hdb
        refine wp_region_sego [0, 0, 0, 0, 1, 3, 5, 7] [false, false, true, true] (by kernel_rfl) (by kernel_rfl) (fun _ _ d _ _ h => by cases d <;> exact h) (sego_go fun K0 hK0 => ?_)
        simp only [pickC, ↓reduceIte, Nat.reduceEqDiff, Nat.reduceAdd]
        go_wp2_with fail
        refine hK0.out _ (sego_act fun K2 hK2 => ?_)
        clear hK0 K0
        simp only [pickC, ↓reduceIte, Nat.reduceEqDiff, Nat.reduceAdd]
        go_wp2_with fail
        refine (HR.out _ H2.out.drew.at_).mono ?_
        rintro e w3 ⟨rfl, hBelow⟩
        have H3 := Lib.hid (And.intro (H2.out.drew.below hBelow) (HO2.out.2.drew.below hBelow))
        go_wp2_with fail
        refine hK2.out _ _ hBelow (sego_go fun K0 hK0 => ?_)
        clear hK2 K2 hBelow
        simp only [pickC, ↓reduceIte, Nat.reduceEqDiff, Nat.reduceAdd]
        go_wp2_with fail
        refine hK0.out _ (sego_act fun K2 hK2 => ?_)
        clear hK0 K0
        simp only [pickC, ↓reduceIte, Nat.reduceEqDiff, Nat.reduceAdd]
        go_wp2_with fail
        have H4 := Lib.hid (And.intro (H3.out.1.below (((Below.refl _ _).alloc (Nat.le_refl _) (.cells (u8s d) 25)))) (And.intro (H3.out.2.below (((Below.refl _ _).alloc (Nat.le_refl _) (.cells (u8s d) 25)))) (Blk.new w3 25 (u8s d))))
        go_wp2_with fail
        refine hK2.out _ _ ((Below.refl _ _).alloc (Nat.le_refl _) _) (sego_last fun K0 hK0 => ?_)
        clear hK2 K2
        simp only [pickC, ↓reduceIte, Nat.reduceEqDiff, Nat.reduceAdd]
        go_wp2_with fail
        refine hK0.out _ (sego_do fun K2 hK2 => ?_)
        clear hK0 K0
        simp only [pickC, ↓reduceIte, Nat.reduceEqDiff, Nat.reduceAdd]
        refine wpList_apph rfl (.tmp 22) (.tmp 27) rfl (max wv pv + 1) _ _ _ _ rfl H4.out.2.1 w3.heap.size d rfl H4.out.2.2 hd HB.out (by omega) (by have := H4.out.1.ew.lt; obtain ⟨_, _, q, _⟩ := H4.out.1.ep; have := q.lt; omega) ?_
        intro A5 c5 w5 O5 B5
        obtain ⟨v5, E5⟩ := H4.out.1.cell5 B5
        have f5 := E5.frozen 0
        have c5' := E5.cell 0
        have H5 := Lib.hid (And.intro (H4.out.1.stored B5 O5) E5)
        clear O5 B5 E5 cq
        go_wp2_with fail
        refine hK2.out _ _ (sego_last fun K0 hK0 => ?_)
        clear hK2 K2
        simp only [pickC, ↓reduceIte, Nat.reduceEqDiff, Nat.reduceAdd]
        go_wp2_with fail
        refine hK0.out _ (sego_do fun K2 hK2 => ?_)
        clear hK0 K0
        simp only [pickC, ↓reduceIte, Nat.reduceEqDiff, Nat.reduceAdd]
        go_wp2_with fail
        refine hK2.out _ _ (sego_end fun K0 hK0 => ?_)
        clear hK2 K2
        simp only [pickC, ↓reduceIte, Nat.reduceEqDiff, Nat.reduceAdd]
        go_wp2_with fail
        refine hK0.out _ ?_
        clear hK0 K0
        go_wp2_with fail
        refine bodyPost_ret (results_none rfl _ _ _) rfl ⟨rfl, ?_⟩
        have h5 := H5.out.1
        rw [HN.out, ← List.append_assoc, List.length_append, List.length_singleton, ← Nat.add_assoc]
        exact h5
      · rw [if_neg hik] at hpn
        have HN := Lib.hid hpn
        clear hpn
        have cw := HS.out.drew.ew.cell 0
        simp only [fn77] at cw
        have ei : ((i - k : Nat) : Int) = (i : Int) - (k : Int) := by omega
        go_enter Tryd.func77, Tryd.ntmps77
        go_wp2_with fail
        refine (HK.out _).mono ?_
        rintro e w1 ⟨rfl, rfl⟩
        go_wp2_with fail
        refine wp_region_sego [0, 0, 0, 0, 0, 0, 0, 1] [true] (by kernel_rfl) (by kernel_rfl) (fun _ _ d _ _ h => by cases d <;> exact h) (sego_last fun K0 hK0 => ?_)
        simp only [pickC, ↓reduceIte, Nat.reduceEqDiff, Nat.reduceAdd]
        go_wp2_with fail
        refine hK0.out _ (sego_do fun K2 hK2 => ?_)
        clear hK0 K0
        simp only [pickC, ↓reduceIte, Nat.reduceEqDiff, Nat.reduceAdd]
        go_wp2_with fail
        have hIH := IH.out (n - k) (by omega) (ps.drop k) (i - k) _ (cap - k) _ m hs (by rw [List.length_drop]; have := HP.out.2; omega) (by omega) (by omega) (by omega) (by omega) (by omega) hm (HP.out.1.drop k) HS.out.drew
        rw [ei] at hIH
        refine hIH.mono ?_
        clear hIH ei
        rintro e w2 ⟨rfl, S2⟩
        have H2 := Lib.hid S2
        clear S2 cw
        go_wp2_with fail
        refine hK2.out _ _ (sego_end fun K0 hK0 => ?_)
        clear hK2 K2
        simp only [pickC, ↓reduceIte, Nat.reduceEqDiff, Nat.reduceAdd]
        go_wp2_with fail
        refine hK0.out _ ?_
        clear hK0 K0
        go_wp2_with fail
        have hlen : (proveL (ps.drop k) (i - k)).length ≤ 65536 := by have := (proveL_digs (n - k) (ps.drop k) (i - k) (by rw [List.length_drop]; have := HP.out.2; omega)).2; omega
        obtain ⟨Ap2, cp2, Ep2, Oh2⟩ := H2.out.ep
        have cq := Ep2.drew.cell 0
        have HO2 := Lib.hid (And.intro Ep2 Oh2)
        clear Ep2 Oh2
        have hd := mrootL_length (ps.take k)
        have hdb := mrootL_bytes (ps.take k)
        have HR := Lib.hid (fun W (s : At W0 W) => rootof_any (k) (ps.take k) W (some ⟨g, off, none⟩) cap (by rw [List.length_take]; have := HP.out.2; omega) (by omega) (by omega) (by omega) s.t ((HP.out.1.below s.b).take k))
        generalize mrootL (ps.take k) = d at *
        have HB := Lib.hid hdb
        clear hdb
        refine wp_region_sego [0, 0, 0, 0, 1, 3, 5, 7] [false, false, true, true] (by kernel_rfl) (by kernel_rfl) (fun _ _ d _ _ h => by cases d <;> exact h) (sego_go fun K0 hK0 => ?_)
        simp only [pickC, ↓reduceIte, Nat.reduceEqDiff, Nat.reduceAdd]
        go_wp2_with fail
        refine hK0.out _ (sego_act fun K2 hK2 => ?_)
        clear hK0 K0
        simp only [pickC, ↓reduceIte, Nat.reduceEqDiff, Nat.reduceAdd]
        go_wp2_with fail
        refine (HR.out _ H2.out.drew.at_).mono ?_
        rintro e w3 ⟨rfl, hBelow⟩
        have H3 := Lib.hid (And.intro (H2.out.drew.below hBelow) (HO2.out.2.drew.below hBelow))
        go_wp2_with fail
        refine hK2.out _ _ hBelow (sego_go fun K0 hK0 => ?_)
        clear hK2 K2 hBelow
        simp only [pickC, ↓reduceIte, Nat.reduceEqDiff, Nat.reduceAdd]
        go_wp2_with fail
        refine hK0.out _ (sego_act fun K2 hK2 => ?_)
        clear hK0 K0
        simp only [pickC, ↓reduceIte, Nat.reduceEqDiff, Nat.reduceAdd]
        go_wp2_with fail
        have H4 := Lib.hid (And.intro (H3.out.1.below (((Below.refl _ _).alloc (Nat.le_refl _) (.cells (u8s d) 25)))) (And.intro (H3.out.2.below (((Below.refl _ _).alloc (Nat.le_refl _) (.cells (u8s d) 25)))) (Blk.new w3 25 (u8s d))))
        go_wp2_with fail
        refine hK2.out _ _ ((Below.refl _ _).alloc (Nat.le_refl _) _) (sego_last fun K0 hK0 => ?_)
        clear hK2 K2
        simp only [pickC, ↓reduceIte, Nat.reduceEqDiff, Nat.reduceAdd]
        go_wp2_with fail
        refine hK0.out _ (sego_do fun K2 hK2 => ?_)
        clear hK0 K0
        simp only [pickC, ↓reduceIte, Nat.reduceEqDiff, Nat.reduceAdd]
        refine wpList_apph rfl (.tmp 37) (.tmp 42) rfl (max wv pv + 1) _ _ _ _ rfl H4.out.2.1 w3.heap.size d rfl H4.out.2.2 hd HB.out (by omega) (by have := H4.out.1.ew.lt; obtain ⟨_, _, q, _⟩ := H4.out.1.ep; have := q.lt; omega) ?_
        intro A5 c5 w5 O5 B5
        obtain ⟨v5, E5⟩ := H4.out.1.cell5 B5
        have f5 := E5.frozen 0
        have c5' := E5.cell 0
        have H5 := Lib.hid (And.intro (H4.out.1.stored B5 O5) E5)
        clear O5 B5 E5 cq
        go_wp2_with fail
        refine hK2.out _ _ (sego_last fun K0 hK0 => ?_)
        clear hK2 K2
        simp only [pickC, ↓reduceIte, Nat.reduceEqDiff, Nat.reduceAdd]
        go_wp2_with fail
        refine hK0.out _ (sego_do fun K2 hK2 => ?_)
        clear hK0 K0
        simp only [pickC, ↓reduceIte, Nat.reduceEqDiff, Nat.reduceAdd]
        go_wp2_with fail
        refine hK2.out _ _ (sego_end fun K0 hK0 => ?_)
        clear hK2 K2
        simp only [pickC, ↓reduceIte, Nat.reduceEqDiff, Nat.reduceAdd]
        go_wp2_with fail
        refine hK0.out _ ?_
        clear hK0 K0
        go_wp2_with fail
        go_end0
        refine ⟨rfl, ?_⟩
        have h5 := H5.out.1
        rw [HN.out, ← List.append_assoc, List.length_append, List.length_singleton, ← Nat.add_assoc]
        exact h5
end Go.Proofs.YtediocpdpghbfaaDoor
namespace Go.Proofs.YtediocpdpghbfaaDoor
open Go Go.RowKit

set_option maxRecDepth 100000 in
set_option maxHeartbeats 1000000 in
theorem mprove_any (n : Nat) (ps : List (List Nat)) (i : Nat) (w : World) (A : Option Addr) (cap : Nat) (hl : ps.length = n) (hn : n ≤ 65536) (hcap : n ≤ cap) (hcm : cap ≤ 9223372036854775807) (hi : i < n) (hT : Tabs w) (hP : PL w A ps) :
    Calls Tryd.prog 49 #[.slice A n cap, .int .i64 i] w fun e w' => ∃ A' c', e = .returned (.tuple #[.slice A' (proveL ps i).length c', .int .i64 0]) ∧ OH w' w.heap.size A' (proveL ps i).length c' (proveL ps i) ∧ Below w.heap.size w w' := by
  obtain ⟨W, hW⟩ : ∃ W, W = (w.alloc (.cells #[.slice none 0 0] 67)).alloc (.cells #[fn77 (w.heap.size + 1) w.heap.size] 115) := ⟨_, rfl⟩
  have E0 : Blk W w.heap.size 67 #[.slice none 0 0] := by rw [hW]; exact (Blk.new _ _ _).alloc _
  have E1 : Blk W (w.heap.size + 1) 115 #[fn77 (w.heap.size + 1) w.heap.size] := by rw [hW]; exact Blk.new1 _ _ _ _
  have B0 : Below w.heap.size w W := by rw [hW]; exact ((Below.refl _ _).alloc (Nat.le_refl _) _).alloc (by simp) _
  have S0 : PrvSt w W (w.heap.size + 1) w.heap.size 0 [] := ⟨⟨hT, B0⟩, by omega, by omega, by omega, E1, none, 0, E0, oh_nil _ _⟩
  have hw := walk77 w (w.heap.size + 1) w.heap.size n ps i A cap _ 0 [] hl (by omega) hn hcap hcm hi (by omega) hP S0
  rw [Nat.zero_add, List.nil_append] at hw
  have HW := Lib.hid hw
  clear hw S0 B0 E1 E0 hT hP hl
  generalize proveL ps i = q at *
  have t2 : decide (n ≤ i) = false := by simp; omega
  have t3 : decide ((i : Int) < 0) = false := by simp
  go_enter Tryd.func49, Tryd.ntmps49
  go_wp2_with fail
  change Calls _ _ _ ((w.alloc (.cells #[.slice none 0 0] 67)).alloc (.cells #[fn77 (w.heap.size + 1) w.heap.size] 115)) _
  rw [← hW]
  clear hW
  refine HW.out.mono ?_
  rintro e w1 ⟨rfl, S1⟩
  obtain ⟨Ap, cp, Ep, Oh⟩ := S1.ep
  have c1 := Ep.cell 0
  have H1 := Lib.hid (And.intro S1 Oh)
  clear S1 Oh
  go_wp2_with fail
  go_ret2
  exact ⟨Ap, cp, rfl, ⟨H1.out.2.1, H1.out.2.2.1, H1.out.2.2.2.1, by
    rcases H1.out.2.2.2.2 with h2 | ⟨k, cap', cur, hv, hk, hh, h3, h4, h5, h6⟩
    · exact .inl h2
    · exact .inr ⟨k, cap', cur, hv, by omega, hh, h3, h4, h5, h6⟩⟩, H1.out.1.at_.b⟩
set_option maxRecDepth 100000 in
theorem mprove_bad (n : Nat) (i : Int) (w : World) (A : Option Addr) (cap : Nat) (hn : n ≤ 65536) (hi : i < 0 ∨ (n : Int) ≤ i) :
    Calls Tryd.prog 49 #[.slice A n cap, .int .i64 i] w fun e w' => e = .returned (.tuple #[.slice none 0 0, .int .i64 2]) ∧ w = w' := by
  rcases hi with h | h
  · go_enter Tryd.func49, Tryd.ntmps49
    go_wp2_with fail
    go_ret2
    exact ⟨rfl, rfl⟩
  · by_cases h0 : i < 0
    · exact absurd h (by omega)
    · have t2 : decide ((n : Int) ≤ i) = true := by simpa using h
      go_enter Tryd.func49, Tryd.ntmps49
      go_wp2_with fail
      go_ret2
      exact ⟨rfl, rfl⟩
end Go.Proofs.YtediocpdpghbfaaDoor
namespace Go.Proofs.YtediocpdpghbfaaDoor
open Go Go.RowKit

/-! ### plain -/
def subF : Nat → List (List Nat) → Nat → Bool → List (List Nat)
  | 0, _, _, _ => []
  | f + 1, l, m, whole => if m = l.length then (if whole then [] else [mrootL l]) else if m ≤ splitL l.length then subF f (l.take (splitL l.length)) m whole ++ [mrootL (l.drop (splitL l.length))] else subF f (l.drop (splitL l.length)) (m - splitL l.length) false ++ [mrootL (l.take (splitL l.length))]
def subL (l : List (List Nat)) (m : Nat) (whole : Bool) : List (List Nat) := subF l.length l m whole
theorem subF_fuel : ∀ (f : Nat) (l : List (List Nat)) (m : Nat) (whole : Bool), 1 ≤ m → m ≤ l.length → l.length ≤ f → subF f l m whole = subL l m whole := by
  intro f
  induction f using Nat.strongRecOn with
  | ind f ih =>
    intro l m whole h1 hm hl
    cases f with
    | zero => omega
    | succ f =>
      unfold subL
      obtain ⟨n, hn⟩ : ∃ n, l.length = n + 1 := ⟨l.length - 1, by omega⟩
      rw [show subF l.length l m whole = subF (n + 1) l m whole by rw [hn]]
      unfold subF
      by_cases he : m = l.length
      · simp only [he, if_true]
      · have hs := splitL_bd l.length (by omega)
        simp only [he, if_false]
        have hnf : n < f + 1 := by omega
        by_cases hk : m ≤ splitL l.length
        · simp only [hk, if_true]
          rw [ih f (Nat.lt_succ_self f) _ m whole h1 (by rw [List.length_take]; omega) (by rw [List.length_take]; omega), ih n hnf _ m whole h1 (by rw [List.length_take]; omega) (by rw [List.length_take]; omega)]
        · simp only [hk, if_false]
          rw [ih f (Nat.lt_succ_self f) _ (m - splitL l.length) false (by omega) (by rw [List.length_drop]; omega) (by rw [List.length_drop]; omega), ih n hnf _ (m - splitL l.length) false (by omega) (by rw [List.length_drop]; omega) (by rw [List.length_drop]; omega)]
theorem subL_eq (l : List (List Nat)) (m : Nat) (whole : Bool) (h : 1 ≤ m) (he : m = l.length) : subL l m whole = if whole then [] else [mrootL l] := by
  obtain ⟨n, hn⟩ : ∃ n, l.length = n + 1 := ⟨l.length - 1, by omega⟩
  unfold subL; rw [hn]; unfold subF; rw [if_pos he]
theorem subL_node (l : List (List Nat)) (m : Nat) (whole : Bool) (h : 1 ≤ m) (hm : m < l.length) : subL l m whole = if m ≤ splitL l.length then subL (l.take (splitL l.length)) m whole ++ [mrootL (l.drop (splitL l.length))] else subL (l.drop (splitL l.length)) (m - splitL l.length) false ++ [mrootL (l.take (splitL l.length))] := by
  obtain ⟨n, hn⟩ : ∃ n, l.length = n + 1 := ⟨l.length - 1, by omega⟩
  have hs := splitL_bd l.length (by omega)
  conv => lhs; unfold subL; rw [hn]; unfold subF
  rw [if_neg (by omega)]
  by_cases hk : m ≤ splitL l.length
  · rw [if_pos hk, if_pos hk, subF_fuel n _ _ _ h (by rw [List.length_take]; omega) (by rw [List.length_take]; omega)]
  · rw [if_neg hk, if_neg hk, subF_fuel n _ _ _ (by omega) (by rw [List.length_drop]; omega) (by rw [List.length_drop]; omega)]
theorem subL_digs : ∀ (n : Nat) (l : List (List Nat)) (m : Nat) (whole : Bool), l.length = n → 1 ≤ m → m ≤ n → Digs (subL l m whole) ∧ (subL l m whole).length ≤ n := by
  intro n
  induction n using Nat.strongRecOn with
  | ind n ih =>
    intro l m whole hl h1 hm
    rcases Nat.lt_or_ge m n with h2 | h2
    · have hs := splitL_bd l.length (by omega)
      rw [subL_node l m whole h1 (by omega)]
      split
      · obtain ⟨a, b⟩ := ih (splitL l.length) (by omega) (l.take (splitL l.length)) m whole (by rw [List.length_take]; omega) h1 (by omega)
        exact ⟨a.snoc (mrootL_length _) (mrootL_bytes _), by rw [List.length_append, List.length_singleton]; omega⟩
      · obtain ⟨a, b⟩ := ih (n - splitL l.length) (by omega) (l.drop (splitL l.length)) (m - splitL l.length) false (by rw [List.length_drop]; omega) (by omega) (by omega)
        exact ⟨a.snoc (mrootL_length _) (mrootL_bytes _), by rw [List.length_append, List.length_singleton]; omega⟩
    · rw [subL_eq l m whole h1 (by omega)]
      split
      · exact ⟨Digs.nil, Nat.zero_le _⟩
      · exact ⟨Digs.nil.snoc (mrootL_length _) (mrootL_bytes _), by simp; omega⟩

/-! ### the closure -/
/-- the function value in the variable walk -/
def fn81 (wv pv : Nat) : Value := .func (.func 81) #[] #[.pointer (some ⟨pv, 0, none⟩), .pointer (some ⟨wv, 0, none⟩)]
/-- what the closure finds: its two variables, the digests collected -/
structure PrcSt (W0 w : World) (wv pv : Nat) (m : Nat) (hs : List (List Nat)) : Prop where
  at_ : At W0 w
  bw : W0.heap.size ≤ wv
  bp : W0.heap.size ≤ pv
  ne : wv ≠ pv
  ew : Blk w wv 122 #[fn81 wv pv]
  ep : ∃ Ap cp, Blk w pv 67 #[.slice Ap m cp] ∧ OH w (max wv pv + 1) Ap m cp hs
theorem PrcSt.drew {W0 w : World} {wv pv m : Nat} {hs : List (List Nat)} (h : PrcSt W0 w wv pv m hs) : PrcSt W0 w.drew wv pv m hs :=
  ⟨h.at_.drew, h.bw, h.bp, h.ne, h.ew.drew, let ⟨Ap, cp, a, b⟩ := h.ep; ⟨Ap, cp, a.drew, b.drew⟩⟩
theorem PrcSt.below {W0 w w' : World} {wv pv m : Nat} {hs : List (List Nat)} (h : PrcSt W0 w wv pv m hs) (hb : Below w.heap.size w w') : PrcSt W0 w' wv pv m hs :=
  ⟨h.at_.step hb, h.bw, h.bp, h.ne, h.ew.below hb h.ew.lt, let ⟨Ap, cp, a, b⟩ := h.ep; ⟨Ap, cp, a.below hb a.lt, b.below hb⟩⟩
theorem PrcSt.cell5 {W0 w4 w5 : World} {wv pv m : Nat} {hs : List (List Nat)} (h : PrcSt W0 w4 wv pv m hs) (B : Below (max wv pv + 1) w4 w5) : ∃ v, Blk w5 pv 67 #[v] := by
  obtain ⟨Ap, cp, a, b⟩ := h.ep
  exact ⟨_, a.below B (by omega)⟩
theorem PrcSt.stored {W0 w4 w5 : World} {wv pv m : Nat} {hs hs' : List (List Nat)} {A' : Option Addr} {m' c' : Nat} (h : PrcSt W0 w4 wv pv m hs) (B : Below (max wv pv + 1) w4 w5) (O : OH w5 (max wv pv + 1) A' m' c' hs') :
    PrcSt W0 (w5.setCell ⟨pv, 0, none⟩ (.slice A' m' c')) wv pv m' hs' := by
  have b1 := h.bw
  have b2 := h.bp
  obtain ⟨Ap, cp, a, b⟩ := h.ep
  have a5 := a.below B (by omega)
  refine ⟨⟨h.at_.t0, (h.at_.b.trans (B.mono (by omega))).setCell (by exact h.bp) _⟩, h.bw, h.bp, h.ne, (h.ew.below B (by omega)).far h.ne _, A', c', ?_, O.setCell (by simp; omega) _⟩
  have := a5.set_ 0 (.slice A' m' c')
  simpa using this
attribute [local go_sem ↓] bs67_rule
attribute [local go_sem] bs67_run
set_option maxRecDepth 100000 in
set_option maxHeartbeats 800000 in
theorem walk81 (W0 : World) (wv pv : Nat) : ∀ (n : Nat) (ps : List (List Nat)) (i : Nat) (whole : Bool) (A : Option Addr) (cap : Nat) (w : World) (m : Nat) (hs : List (List Nat)), ps.length = n → 1 ≤ i → n ≤ 65536 → n ≤ cap → cap ≤ 9223372036854775807 → i ≤ n → m ≤ 100000 →
    PL W0 A ps → PrcSt W0 w wv pv m hs →
    Calls Tryd.prog 81 #[.int .i64 i, .slice A n cap, .bool whole, .pointer (some ⟨pv, 0, none⟩), .pointer (some ⟨wv, 0, none⟩)] w fun e w' => e = .returned (.tuple #[]) ∧ PrcSt W0 w' wv pv (m + (subL ps i whole).length) (hs ++ subL ps i whole) := by
  intro n
  induction n using Nat.strongRecOn with
  | ind n ih =>
    intro ps i whole A cap w m hs hl h1 hn hcap hcm hi hm hP hS
    have IH := Lib.hid ih
    clear ih
    have HS := Lib.hid hS
    clear hS
    rcases Nat.lt_or_ge i n with h2 | h2
    · have hk := splitL_bd n (by omega)
      have hpn := subL_node ps i whole h1 (by omega)
      rw [hl] at hpn
      have HK := Lib.hid (fun W => msplit_any n (by omega) W)
      generalize splitL n = k at *
      rcases hP with hnil | ⟨g, off, rfl, hg, hc⟩
      · rw [hnil] at hl; simp at hl; omega
      have hP : PL W0 (some ⟨g, off, none⟩) ps := .inr ⟨g, off, rfl, hg, hc⟩
      clear hc hg
      have s1 := fun W => sl41_h g off n cap k (by omega) W
      have s2 := fun W => sl41_l g off n cap k (by omega) hcap W
      have t1 : ((i : Int) == (n : Int)) = false := by rw [beq_eq_false_iff_ne]; omega
      have HP := Lib.hid (And.intro hP hl)
      clear hP hl
      by_cases hik : i ≤ k
      · rw [if_pos hik] at hpn
        have HN := Lib.hid hpn
        clear hpn
        have cw := HS.out.drew.ew.cell 0
        simp only [fn81] at cw
        go_enter Tryd.func81, Tryd.ntmps81
        go_wp2_with fail
        refine (HK.out _).mono ?_
        rintro e w1 ⟨rfl, rfl⟩
        go_wp2_with fail
        refine wp_region_sego [0, 0, 0, 0, 0, 0, 1] [true] (by kernel_rfl) (by kernel_rfl) (fun _ _ d _ _ h => by cases d <;> exact h) (sego_last fun K0 hK0 => ?_)
        simp only [pickC, ↓reduceIte, Nat.reduceEqDiff, Nat.reduceAdd]
        go_wp2_with fail
        refine hK0.out _ (sego_do fun K2 hK2 => ?_)
        clear hK0 K0
        simp only [pickC, ↓reduceIte, Nat.reduceEqDiff, Nat.reduceAdd]
        go_wp2_with fail
        refine (IH.out k (by omega) (ps.take k) i whole _ cap _ m hs (by rw [List.length_take]; have := HP.out.2; omega) h1 (by omega) (by omega) hcm hik hm (HP.out.1.take k) HS.out.drew).mono ?_
        rintro e w2 ⟨rfl, S2⟩
        have H2 := Lib.hid S2
        clear S2 cw
        go_wp2_with fail
        refine hK2.out _ _ (sego_end fun K0 hK0 => ?_)
        clear hK2 K2
        simp only [pickC, ↓reduceIte, Nat.reduceEqDiff, Nat.reduceAdd]
        go_wp2_with fail
        refine hK0.out _ ?_
        clear hK0 K0
        go_wp2_with fail
        have hlen : (subL (ps.take k) i whole).length ≤ 65536 := by have := (subL_digs k (ps.take k) i whole (by rw [List.length_take]; have := HP.out.2; omega) h1 hik).2; omega
        obtain ⟨Ap2, cp2, Ep2, Oh2⟩ := H2.out.ep
        have cq := Ep2.drew.cell 0
        have HO2 := Lib.hid (And.intro Ep2 Oh2)
        clear Ep2 Oh2
        have hd := mrootL_length (ps.drop k)
        have hdb := mrootL_bytes (ps.drop k)
        have HR := Lib.hid (fun W (s : At W0 W) => rootof_any (n - k) (ps.drop k) W (some ⟨g, off + k, none⟩) (cap - k) (by rw [List.length_drop]; have := HP.out.2; omega) (by omega) (by omega) (by omega) s.t ((HP.out.1.below s.b).drop k))
        generalize mrootL (ps.drop k) = d at *
        have HB := Lib.hid hdb
        clear hdb
        refine wp_region_sego [0, 0, 0, 0, 1, 3, 5, 7] [false, false, true, true] (by kernel_rfl) (by kernel_rfl) (fun _ _ d _ _ h => by cases d <;> exact h) (sego_go fun K0 hK0 => ?_)
        simp only [pickC, ↓reduceIte, Nat.reduceEqDiff, Nat.reduceAdd]
        go_wp2_with fail
        refine hK0.out _ (sego_act fun K2 hK2 => ?_)
        clear hK0 K0
        simp only [pickC, ↓reduceIte, Nat.reduceEqDiff, Nat.reduceAdd]
        go_wp2_with fail
        refine (HR.out _ H2.out.drew.at_).mono ?_
        rintro e w3 ⟨rfl, hBelow⟩
        have H3 := Lib.hid (And.intro (H2.out.drew.below hBelow) (HO2.out.2.drew.below hBelow))
        go_wp2_with fail
        refine hK2.out _ _ hBelow (sego_go fun K0 hK0 => ?_)
        clear hK2 K2 hBelow
        simp only [pickC, ↓reduceIte, Nat.reduceEqDiff, Nat.reduceAdd]
        go_wp2_with fail
        refine hK0.out _ (sego_act fun K2 hK2 => ?_)
        clear hK0 K0
        simp only [pickC, ↓reduceIte, Nat.reduceEqDiff, Nat.reduceAdd]
        go_wp2_with fail
        have H4 := Lib.hid (And.intro (H3.out.1.below (((Below.refl _ _).alloc (Nat.le_refl _) (.cells (u8s d) 25)))) (And.intro (H3.out.2.below (((Below.refl _ _).alloc (Nat.le_refl _) (.cells (u8s d) 25)))) (Blk.new w3 25 (u8s d))))
        go_wp2_with fail
        refine hK2.out _ _ ((Below.refl _ _).alloc (Nat.le_refl _) _) (sego_last fun K0 hK0 => ?_)
        clear hK2 K2
        simp only [pickC, ↓reduceIte, Nat.reduceEqDiff, Nat.reduceAdd]
        go_wp2_with fail
        refine hK0.out _ (sego_do fun K2 hK2 => ?_)
        clear hK0 K0
        simp only [pickC, ↓reduceIte, Nat.reduceEqDiff, Nat.reduceAdd]
        refine wpList_apph rfl (.tmp 33) (.tmp 38) rfl (max wv pv + 1) Ap2 _ cp2 _ rfl H4.out.2.1 w3.heap.size d rfl H4.out.2.2 hd HB.out (by omega) (by have := H4.out.1.ew.lt; obtain ⟨_, _, q, _⟩ := H4.out.1.ep; have := q.lt; omega) ?_
        intro A5 c5 w5 O5 B5
        obtain ⟨v5, E5⟩ := H4.out.1.cell5 B5
        have f5 := E5.frozen 0
        have c5' := E5.cell 0
        have H5 := Lib.hid (And.intro (H4.out.1.stored B5 O5) E5)
        clear O5 B5 E5 cq
        go_wp2_with fail
        refine hK2.out _ _ (sego_last fun K0 hK0 => ?_)
        clear hK2 K2
        simp only [pickC, ↓reduceIte, Nat.reduceEqDiff, Nat.reduceAdd]
        go_wp2_with fail
        refine hK0.out _ (sego_do fun K2 hK2 => ?_)
        clear hK0 K0
        simp only [pickC, ↓reduceIte, Nat.reduceEqDiff, Nat.reduceAdd]
        go_wp2_with fail
        refine hK2.out _ _ (sego_end fun K0 hK0 => ?_)
        clear hK2 K2
        simp only [pickC, ↓reduceIte, Nat.reduceEqDiff, Nat.reduceAdd]
        go_wp2_with fail
        refine hK0.out _ ?_
        clear hK0 K0
        go_wp2_with fail
        refine bodyPost_ret (results_none rfl _ _ _) rfl ⟨rfl, ?_⟩
        have h5 := H5.out.1
        rw [HN.out, ← List.append_assoc, List.length_append, List.length_singleton, ← Nat.add_assoc]
        exact h5
      · rw [if_neg hik] at hpn
        have HN := Lib.hid hpn
        clear hpn
        have cw := HS.out.drew.ew.cell 0
        simp only [fn81] at cw
        have ei : ((i - k : Nat) : Int) = (i : Int) - (k : Int) := by omega
        go_enter Tryd.func81, Tryd.ntmps81
        go_wp2_with fail
        refine (HK.out _).mono ?_
        rintro e w1 ⟨rfl, rfl⟩
        go_wp2_with fail
        refine wp_region_sego [0, 0, 0, 0, 0, 0, 0, 1] [true] (by kernel_rfl) (by kernel_rfl) (fun _ _ d _ _ h => by cases d <;> exact h) (sego_last fun K0 hK0 => ?_)
        simp only [pickC, ↓reduceIte, Nat.reduceEqDiff, Nat.reduceAdd]
        go_wp2_with fail
        refine hK0.out _ (sego_do fun K2 hK2 => ?_)
        clear hK0 K0
        simp only [pickC, ↓reduceIte, Nat.reduceEqDiff, Nat.reduceAdd]
        go_wp2_with fail
        have hIH := IH.out (n - k) (by omega) (ps.drop k) (i - k) false _ (cap - k) _ m hs (by rw [List.length_drop]; have := HP.out.2; omega) (by omega) (by omega) (by omega) (by omega) (by omega) hm (HP.out.1.drop k) HS.out.drew
        rw [ei] at hIH
        refine hIH.mono ?_
        clear hIH ei
        rintro e w2 ⟨rfl, S2⟩
        have H2 := Lib.hid S2
        clear S2 cw
        go_wp2_with fail
        refine hK2.out _ _ (sego_end fun K0 hK0 => ?_)
        clear hK2 K2
        simp only [pickC, ↓reduceIte, Nat.reduceEqDiff, Nat.reduceAdd]
        go_wp2_with fail
        refine hK0.out _ ?_
        clear hK0 K0
        go_wp2_with fail
        have hlen : (subL (ps.drop k) (i - k) false).length ≤ 65536 := by have := (subL_digs (n - k) (ps.drop k) (i - k) false (by rw [List.length_drop]; have := HP.out.2; omega) (by omega) (by omega)).2; omega
        obtain ⟨Ap2, cp2, Ep2, Oh2⟩ := H2.out.ep
        have cq := Ep2.drew.cell 0
        have HO2 := Lib.hid (And.intro Ep2 Oh2)
        clear Ep2 Oh2
        have hd := mrootL_length (ps.take k)
        have hdb := mrootL_bytes (ps.take k)
        have HR := Lib.hid (fun W (s : At W0 W) => rootof_any (k) (ps.take k) W (some ⟨g, off, none⟩) cap (by rw [List.length_take]; have := HP.out.2; omega) (by omega) (by omega) (by omega) s.t ((HP.out.1.below s.b).take k))
        generalize mrootL (ps.take k) = d at *
        have HB := Lib.hid hdb
        clear hdb
        refine wp_region_sego [0, 0, 0, 0, 1, 3, 5, 7] [false, false, true, true] (by kernel_rfl) (by kernel_rfl) (fun _ _ d _ _ h => by cases d <;> exact h) (sego_go fun K0 hK0 => ?_)
        simp only [pickC, ↓reduceIte, Nat.reduceEqDiff, Nat.reduceAdd]
        go_wp2_with fail
        refine hK0.out _ (sego_act fun K2 hK2 => ?_)
        clear hK0 K0
        simp only [pickC, ↓reduceIte, Nat.reduceEqDiff, Nat.reduceAdd]
        go_wp2_with fail
        refine (HR.out _ H2.out.drew.at_).mono ?_
        rintro e w3 ⟨rfl, hBelow⟩
        have H3 := Lib.hid (And.intro (H2.out.drew.below hBelow) (HO2.out.2.drew.below hBelow))
        go_wp2_with fail
        refine hK2.out _ _ hBelow (sego_go fun K0 hK0 => ?_)
        clear hK2 K2 hBelow
        simp only [pickC, ↓reduceIte, Nat.reduceEqDiff, Nat.reduceAdd]
        go_wp2_with fail
        refine hK0.out _ (sego_act fun K2 hK2 => ?_)
        clear hK0 K0
        simp only [pickC, ↓reduceIte, Nat.reduceEqDiff, Nat.reduceAdd]
        go_wp2_with fail
        have H4 := Lib.hid (And.intro (H3.out.1.below (((Below.refl _ _).alloc (Nat.le_refl _) (.cells (u8s d) 25)))) (And.intro (H3.out.2.below (((Below.refl _ _).alloc (Nat.le_refl _) (.cells (u8s d) 25)))) (Blk.new w3 25 (u8s d))))
        go_wp2_with fail
        refine hK2.out _ _ ((Below.refl _ _).alloc (Nat.le_refl _) _) (sego_last fun K0 hK0 => ?_)
        clear hK2 K2
        simp only [pickC, ↓reduceIte, Nat.reduceEqDiff, Nat.reduceAdd]
        go_wp2_with fail
        refine hK0.out _ (sego_do fun K2 hK2 => ?_)
        clear hK0 K0
        simp only [pickC, ↓reduceIte, Nat.reduceEqDiff, Nat.reduceAdd]
        refine wpList_apph rfl (.tmp 48) (.tmp 53) rfl (max wv pv + 1) Ap2 _ cp2 _ rfl H4.out.2.1 w3.heap.size d rfl H4.out.2.2 hd HB.out (by omega) (by have := H4.out.1.ew.lt; obtain ⟨_, _, q, _⟩ := H4.out.1.ep; have := q.lt; omega) ?_
        intro A5 c5 w5 O5 B5
        obtain ⟨v5, E5⟩ := H4.out.1.cell5 B5
        have f5 := E5.frozen 0
        have c5' := E5.cell 0
        have H5 := Lib.hid (And.intro (H4.out.1.stored B5 O5) E5)
        clear O5 B5 E5 cq
        go_wp2_with fail
        refine hK2.out _ _ (sego_last fun K0 hK0 => ?_)
        clear hK2 K2
        simp only [pickC, ↓reduceIte, Nat.reduceEqDiff, Nat.reduceAdd]
        go_wp2_with fail
        refine hK0.out _ (sego_do fun K2 hK2 => ?_)
        clear hK0 K0
        simp only [pickC, ↓reduceIte, Nat.reduceEqDiff, Nat.reduceAdd]
        go_wp2_with fail
        refine hK2.out _ _ (sego_end fun K0 hK0 => ?_)
        clear hK2 K2
        simp only [pickC, ↓reduceIte, Nat.reduceEqDiff, Nat.reduceAdd]
        go_wp2_with fail
        refine hK0.out _ ?_
        clear hK0 K0
        go_wp2_with fail
        go_end0
        refine ⟨rfl, ?_⟩
        have h5 := H5.out.1
        rw [HN.out, ← List.append_assoc, List.length_append, List.length_singleton, ← Nat.add_assoc]
        exact h5
    · obtain rfl : i = n := by omega
      have hpn := subL_eq ps i whole h1 hl.symm
      have t1 : ((i : Int) == (i : Int)) = true := by simp
      cases whole with
      | true =>
        rw [if_pos rfl] at hpn
        rw [hpn]
        go_enter Tryd.func81, Tryd.ntmps81
        go_wp2_with fail
        exact bodyPost_ret (results_none rfl _ _ _) rfl ⟨rfl, by simpa using HS.out⟩
      | false =>
        rw [if_neg (by simp)] at hpn
        have HN := Lib.hid hpn
        clear hpn
        have HP := Lib.hid (And.intro hP hl)
        clear hP hl
        go_enter Tryd.func81, Tryd.ntmps81
        go_wp2_with fail
        obtain ⟨Ap2, cp2, Ep2, Oh2⟩ := HS.out.ep
        have cq := Ep2.drew.cell 0
        have HO2 := Lib.hid (And.intro Ep2 Oh2)
        clear Ep2 Oh2
        have hd := mrootL_length (ps)
        have hdb := mrootL_bytes (ps)
        have HR := Lib.hid (fun W (s : At W0 W) => rootof_any i (ps) W A cap (by exact HP.out.2) (by omega) (by omega) (by omega) s.t (HP.out.1.below s.b))
        generalize mrootL (ps) = d at *
        have HB := Lib.hid hdb
        clear hdb
        refine wp_region_sego [0, 0, 1, 3, 5, 7] [false, false, true, true] (by kernel_rfl) (by kernel_rfl) (fun _ _ d _ _ h => by cases d <;> exact h) (sego_go fun K0 hK0 => ?_)
        simp only [pickC, ↓reduceIte, Nat.reduceEqDiff, Nat.reduceAdd]
        go_wp2_with fail
        refine hK0.out _ (sego_act fun K2 hK2 => ?_)
        clear hK0 K0
        simp only [pickC, ↓reduceIte, Nat.reduceEqDiff, Nat.reduceAdd]
        go_wp2_with fail
        refine (HR.out _ HS.out.drew.at_).mono ?_
        rintro e w3 ⟨rfl, hBelow⟩
        have H3 := Lib.hid (And.intro (HS.out.drew.below hBelow) (HO2.out.2.drew.below hBelow))
        go_wp2_with fail
        refine hK2.out _ _ hBelow (sego_go fun K0 hK0 => ?_)
        clear hK2 K2 hBelow
        simp only [pickC, ↓reduceIte, Nat.reduceEqDiff, Nat.reduceAdd]
        go_wp2_with fail
        refine hK0.out _ (sego_act fun K2 hK2 => ?_)
        clear hK0 K0
        simp only [pickC, ↓reduceIte, Nat.reduceEqDiff, Nat.reduceAdd]
        go_wp2_with fail
        have H4 := Lib.hid (And.intro (H3.out.1.below (((Below.refl _ _).alloc (Nat.le_refl _) (.cells (u8s d) 25)))) (And.intro (H3.out.2.below (((Below.refl _ _).alloc (Nat.le_refl _) (.cells (u8s d) 25)))) (Blk.new w3 25 (u8s d))))
        go_wp2_with fail
        refine hK2.out _ _ ((Below.refl _ _).alloc (Nat.le_refl _) _) (sego_last fun K0 hK0 => ?_)
        clear hK2 K2
        simp only [pickC, ↓reduceIte, Nat.reduceEqDiff, Nat.reduceAdd]
        go_wp2_with fail
        refine hK0.out _ (sego_do fun K2 hK2 => ?_)
        clear hK0 K0
        simp only [pickC, ↓reduceIte, Nat.reduceEqDiff, Nat.reduceAdd]
        refine wpList_apph rfl (.tmp 15) (.tmp 18) rfl (max wv pv + 1) Ap2 _ cp2 _ rfl H4.out.2.1 w3.heap.size d rfl H4.out.2.2 hd HB.out (by omega) (by have := H4.out.1.ew.lt; obtain ⟨_, _, q, _⟩ := H4.out.1.ep; have := q.lt; omega) ?_
        intro A5 c5 w5 O5 B5
        obtain ⟨v5, E5⟩ := H4.out.1.cell5 B5
        have f5 := E5.frozen 0
        have c5' := E5.cell 0
        have H5 := Lib.hid (And.intro (H4.out.1.stored B5 O5) E5)
        clear O5 B5 E5 cq
        go_wp2_with fail
        refine hK2.out _ _ (sego_last fun K0 hK0 => ?_)
        clear hK2 K2
        simp only [pickC, ↓reduceIte, Nat.reduceEqDiff, Nat.reduceAdd]
        go_wp2_with fail
        refine hK0.out _ (sego_do fun K2 hK2 => ?_)
        clear hK0 K0
        simp only [pickC, ↓reduceIte, Nat.reduceEqDiff, Nat.reduceAdd]
        go_wp2_with fail
        refine hK2.out _ _ (sego_end fun K0 hK0 => ?_)
        clear hK2 K2
        simp only [pickC, ↓reduceIte, Nat.reduceEqDiff, Nat.reduceAdd]
        go_wp2_with fail
        refine hK0.out _ ?_
        clear hK0 K0
        go_wp2_with fail
        refine bodyPost_ret (results_none rfl _ _ _) rfl ⟨rfl, ?_⟩
        have h5 := H5.out.1
        rw [HN.out, List.length_singleton]
        exact h5
end Go.Proofs.YtediocpdpghbfaaDoor
namespace Go.Proofs.YtediocpdpghbfaaDoor
open Go Go.RowKit

def consL (l : List (List Nat)) (m : Nat) : List (List Nat) := if m = 0 ∨ m = l.length then [] else subL l m true
theorem OH.base_le {w : World} {base base' : Nat} {A : Option Addr} {n cap : Nat} {hs : List (List Nat)} (h : OH w base A n cap hs) (hb : base' ≤ base) : OH w base' A n cap hs :=
  ⟨h.1, h.2.1, h.2.2.1, by
    rcases h.2.2.2 with h2 | ⟨k, cap', cur, hv, hk, hh, h3, h4, h5, h6⟩
    · exact .inl h2
    · exact .inr ⟨k, cap', cur, hv, by omega, hh, h3, h4, h5, h6⟩⟩
set_option maxRecDepth 100000 in
set_option maxHeartbeats 1000000 in
theorem mpcons_any (n : Nat) (ps : List (List Nat)) (i : Nat) (w : World) (A : Option Addr) (cap : Nat) (hl : ps.length = n) (hn : n ≤ 65536) (hcap : n ≤ cap) (hcm : cap ≤ 9223372036854775807) (hi : i ≤ n) (hT : Tabs w) (hP : PL w A ps) :
    Calls Tryd.prog 56 #[.slice A n cap, .int .i64 i] w fun e w' => ∃ A' c', e = .returned (.tuple #[.slice A' (consL ps i).length c', .int .i64 0]) ∧ OH w' w.heap.size A' (consL ps i).length c' (consL ps i) ∧ Below w.heap.size w w' := by
  by_cases h0 : i = 0 ∨ i = n
  · have hq : consL ps i = [] := by unfold consL; rw [if_pos (by rw [hl]; exact h0)]
    rw [hq]
    clear hq hP hT
    have t2 : decide ((n : Int) < (i : Int)) = false := by simp; omega
    by_cases hz : i = 0
    · subst hz
      go_enter Tryd.func56, Tryd.ntmps56
      go_wp2_with fail
      go_ret2
      exact ⟨none, 0, rfl, oh_nil _ _, Below.refl _ _⟩
    · obtain rfl : i = n := by omega
      have t0 : ((i : Int) == 0) = false := by rw [beq_eq_false_iff_ne]; omega
      have t1 : ((i : Int) == (i : Int)) = true := by simp
      go_enter Tryd.func56, Tryd.ntmps56
      go_wp2_with fail
      go_ret2
      exact ⟨none, 0, rfl, oh_nil _ _, Below.refl _ _⟩
  · have hq : consL ps i = subL ps i true := by unfold consL; rw [if_neg (by rw [hl]; exact h0)]
    rw [hq]
    obtain ⟨W, hW⟩ : ∃ W, W = (w.alloc (.cells #[.slice none 0 0] 67)).alloc (.cells #[fn81 (w.heap.size + 1) w.heap.size] 122) := ⟨_, rfl⟩
    have E0 : Blk W w.heap.size 67 #[.slice none 0 0] := by rw [hW]; exact (Blk.new _ _ _).alloc _
    have E1 : Blk W (w.heap.size + 1) 122 #[fn81 (w.heap.size + 1) w.heap.size] := by rw [hW]; exact Blk.new1 _ _ _ _
    have B0 : Below w.heap.size w W := by rw [hW]; exact ((Below.refl _ _).alloc (Nat.le_refl _) _).alloc (by simp) _
    have S0 : PrcSt w W (w.heap.size + 1) w.heap.size 0 [] := ⟨⟨hT, B0⟩, by omega, by omega, by omega, E1, none, 0, E0, oh_nil _ _⟩
    have hw := walk81 w (w.heap.size + 1) w.heap.size n ps i true A cap _ 0 [] hl (by omega) hn hcap hcm hi (by omega) hP S0
    rw [Nat.zero_add, List.nil_append] at hw
    have HW := Lib.hid hw
    clear hw S0 B0 E1 E0 hT hP hl hq
    generalize subL ps i true = q at *
    have t2 : decide ((n : Int) < (i : Int)) = false := by simp; omega
    have t0 : ((i : Int) == 0) = false := by rw [beq_eq_false_iff_ne]; omega
    have t1 : ((i : Int) == (n : Int)) = false := by rw [beq_eq_false_iff_ne]; omega
    clear h0
    go_enter Tryd.func56, Tryd.ntmps56
    go_wp2_with fail
    change Calls _ _ _ ((w.alloc (.cells #[.slice none 0 0] 67)).alloc (.cells #[fn81 (w.heap.size + 1) w.heap.size] 122)) _
    rw [← hW]
    clear hW
    refine HW.out.mono ?_
    rintro e w1 ⟨rfl, S1⟩
    obtain ⟨Ap, cp, Ep, Oh⟩ := S1.ep
    have c1 := Ep.cell 0
    have H1 := Lib.hid (And.intro S1 Oh)
    clear S1 Oh
    go_wp2_with fail
    go_ret2
    exact ⟨Ap, cp, rfl, H1.out.2.base_le (by omega), H1.out.1.at_.b⟩
set_option maxRecDepth 100000 in
theorem mpcons_bad (n : Nat) (i : Int) (w : World) (A : Option Addr) (cap : Nat) (hn : n ≤ 65536) (hi : i < 0 ∨ (n : Int) < i) :
    Calls Tryd.prog 56 #[.slice A n cap, .int .i64 i] w fun e w' => e = .returned (.tuple #[.slice none 0 0, .int .i64 2]) ∧ w = w' := by
  rcases hi with h | h
  · go_enter Tryd.func56, Tryd.ntmps56
    go_wp2_with fail
    go_ret2
    exact ⟨rfl, rfl⟩
  · by_cases h0 : i < 0
    · exact absurd h (by omega)
    · have t2 : decide ((n : Int) < i) = true := by simpa using h
      go_enter Tryd.func56, Tryd.ntmps56
      go_wp2_with fail
      go_ret2
      exact ⟨rfl, rfl⟩
end Go.Proofs.YtediocpdpghbfaaDoor
namespace Go.Proofs.YtediocpdpghbfaaDoor
open Go Go.RowKit

def sidesT : Nat → Nat → Nat → List Bool
  | 0, _, _ => []
  | f + 1, n, i => if 1 < n then (if splitL n ≤ i then true :: sidesT f (n - splitL n) (i - splitL n) else false :: sidesT f (splitL n) i) else []
def sidesL (n i : Nat) : List Bool := (sidesT n n i).reverse
theorem sidesT_fuel : ∀ f n i, n ≤ f → sidesT f n i = sidesT n n i := by
  intro f
  induction f using Nat.strongRecOn with
  | ind f ih =>
    intro n i hn
    rcases Nat.lt_or_ge n 2 with h2 | h2
    · cases f with
      | zero => have : n = 0 := by omega
                rw [this]
      | succ f =>
        cases n with
        | zero => simp [sidesT]
        | succ n => simp only [sidesT]; rw [if_neg (show ¬ 1 < n + 1 by omega), if_neg (show ¬ 1 < n + 1 by omega)]
    · obtain ⟨f, rfl⟩ : ∃ f', f = f' + 1 := ⟨f - 1, by omega⟩
      obtain ⟨m, rfl⟩ : ∃ m, n = m + 1 := ⟨n - 1, by omega⟩
      have hk := splitL_bd (m + 1) h2
      generalize hs : splitL (m + 1) = k at *
      simp only [sidesT]
      rw [if_pos (show 1 < m + 1 by omega), if_pos (show 1 < m + 1 by omega), hs]
      rw [ih f (by omega) (m + 1 - k) (i - k) (by omega), ih f (by omega) k i (by omega)]
      rcases Nat.lt_or_ge m f with hmf | hmf
      · rw [ih m (by omega) (m + 1 - k) (i - k) (by omega), ih m (by omega) k i (by omega)]
      · obtain rfl : m = f := by omega
        rw [ih m (by omega) (m + 1 - k) (i - k) (by omega), ih m (by omega) k i (by omega)]
theorem sidesL_one (n i : Nat) (h : n ≤ 1) : sidesL n i = [] := by
  unfold sidesL
  cases n with
  | zero => rfl
  | succ n => simp only [sidesT]; rw [if_neg (by omega)]; rfl
theorem sidesL_lo (n i : Nat) (h : 2 ≤ n) (hi : i < splitL n) : sidesL n i = sidesL (splitL n) i ++ [false] := by
  obtain ⟨m, rfl⟩ : ∃ m, n = m + 1 := ⟨n - 1, by omega⟩
  have hk := splitL_bd (m + 1) h
  unfold sidesL
  conv => lhs; unfold sidesT
  rw [if_pos (by omega), if_neg (by omega), List.reverse_cons, sidesT_fuel m _ _ (by omega)]
theorem sidesL_hi (n i : Nat) (h : 2 ≤ n) (hi : splitL n ≤ i) : sidesL n i = sidesL (n - splitL n) (i - splitL n) ++ [true] := by
  obtain ⟨m, rfl⟩ : ∃ m, n = m + 1 := ⟨n - 1, by omega⟩
  have hk := splitL_bd (m + 1) h
  unfold sidesL
  conv => lhs; unfold sidesT
  rw [if_pos (by omega), if_pos hi, List.reverse_cons, sidesT_fuel m _ _ (by omega)]
theorem sidesT_length : ∀ f n i, (sidesT f n i).length ≤ f
  | 0, _, _ => Nat.zero_le _
  | f + 1, n, i => by
    simp only [sidesT]
    split
    · split
      · have := sidesT_length f (n - splitL n) (i - splitL n); simp; omega
      · have := sidesT_length f (splitL n) i; simp; omega
    · simp
theorem sidesL_length (n i : Nat) : (sidesL n i).length ≤ n := by unfold sidesL; rw [List.length_reverse]; exact sidesT_length n n i
def stepS (r : Bool) (p h : List Nat) : List Nat := if r then nodeL p h else nodeL h p
def foldS (h : List Nat) : List Bool → List (List Nat) → List Nat
  | r :: rs, p :: ps => foldS (stepS r p h) rs ps
  | _, _ => h
theorem foldS_snoc : ∀ (rs : List Bool) (ps : List (List Nat)) (h : List Nat) (r : Bool) (p : List Nat), rs.length = ps.length → foldS h (rs ++ [r]) (ps ++ [p]) = stepS r p (foldS h rs ps)
  | [], [], h, r, p, _ => rfl
  | [], _ :: _, _, _, _, hl => by simp at hl
  | _ :: _, [], _, _, _, hl => by simp at hl
  | r' :: rs, p' :: ps, h, r, p, hl => by
    simp only [List.cons_append, foldS]
    exact foldS_snoc rs ps _ r p (by simpa using hl)
theorem stepS_ok (r : Bool) (p h : List Nat) : (stepS r p h).length = 32 ∧ Bytes (stepS r p h) := by
  unfold stepS; cases r <;> exact ⟨sha_length _, sha_bytes _⟩
theorem foldS_ok : ∀ (rs : List Bool) (ps : List (List Nat)) (h : List Nat), h.length = 32 → Bytes h → (foldS h rs ps).length = 32 ∧ Bytes (foldS h rs ps)
  | [], _, h, h1, h2 => ⟨h1, h2⟩
  | _ :: _, [], h, h1, h2 => ⟨h1, h2⟩
  | r :: rs, p :: ps, h, h1, h2 => by
    simp only [foldS]
    exact foldS_ok rs ps _ (stepS_ok r p h).1 (stepS_ok r p h).2
/-- the reference's Path -/
def pathF : Nat → Nat → Nat → List Nat → List (List Nat) → List Nat × Bool
  | 0, _, _, h, _ => (h, false)
  | f + 1, n, i, h, ps =>
    if n = 1 then (h, decide (ps.length = 0)) else if ps.length = 0 then (h, false) else
    if i < splitL n then (nodeL (pathF f (splitL n) i h (ps.take (ps.length - 1))).1 (ps.getD (ps.length - 1) []), (pathF f (splitL n) i h (ps.take (ps.length - 1))).2)
    else (nodeL (ps.getD (ps.length - 1) []) (pathF f (n - splitL n) (i - splitL n) h (ps.take (ps.length - 1))).1, (pathF f (n - splitL n) (i - splitL n) h (ps.take (ps.length - 1))).2)
def pathL (n i : Nat) (h : List Nat) (ps : List (List Nat)) : List Nat × Bool := pathF n n i h ps
theorem pathF_fuel : ∀ f n i h ps, 1 ≤ n → n ≤ f → pathF f n i h ps = pathL n i h ps := by
  intro f
  induction f using Nat.strongRecOn with
  | ind f ih =>
    intro n i h ps h1 hn
    obtain ⟨f, rfl⟩ : ∃ f', f = f' + 1 := ⟨f - 1, by omega⟩
    obtain ⟨m, rfl⟩ : ∃ m, n = m + 1 := ⟨n - 1, by omega⟩
    unfold pathL
    simp only [pathF]
    by_cases hm : m + 1 = 1
    · rw [if_pos hm, if_pos hm]
    · have hk := splitL_bd (m + 1) (by omega)
      generalize hs : splitL (m + 1) = k at *
      rw [if_neg hm, if_neg hm]
      by_cases hp : ps.length = 0
      · rw [if_pos hp, if_pos hp]
      · rw [if_neg hp, if_neg hp]
        rw [ih f (by omega) (m + 1 - k) (i - k) h _ (by omega) (by omega), ih f (by omega) k i h _ (by omega) (by omega)]
        rcases Nat.lt_or_ge m f with hmf | hmf
        · rw [ih m (by omega) (m + 1 - k) (i - k) h _ (by omega) (by omega), ih m (by omega) k i h _ (by omega) (by omega)]
        · obtain rfl : m = f := by omega
          rw [ih m (by omega) (m + 1 - k) (i - k) h _ (by omega) (by omega), ih m (by omega) k i h _ (by omega) (by omega)]
theorem pathL_one (i : Nat) (h : List Nat) (ps : List (List Nat)) : pathL 1 i h ps = (h, decide (ps.length = 0)) := by unfold pathL; simp [pathF]
theorem pathL_nil (n i : Nat) (h : List Nat) (ps : List (List Nat)) (hn : 2 ≤ n) (hp : ps.length = 0) : pathL n i h ps = (h, false) := by
  obtain ⟨m, rfl⟩ : ∃ m, n = m + 1 := ⟨n - 1, by omega⟩
  unfold pathL; simp only [pathF]; rw [if_neg (by omega), if_pos hp]
theorem pathL_lo (n i : Nat) (h : List Nat) (ps : List (List Nat)) (hn : 2 ≤ n) (hp : ps.length ≠ 0) (hi : i < splitL n) :
    pathL n i h ps = (nodeL (pathL (splitL n) i h (ps.take (ps.length - 1))).1 (ps.getD (ps.length - 1) []), (pathL (splitL n) i h (ps.take (ps.length - 1))).2) := by
  obtain ⟨m, rfl⟩ : ∃ m, n = m + 1 := ⟨n - 1, by omega⟩
  have hk := splitL_bd (m + 1) hn
  conv => lhs; unfold pathL; simp only [pathF]
  rw [if_neg (by omega), if_neg hp, if_pos hi, pathF_fuel m _ _ _ _ (by omega) (by omega)]
theorem pathL_hi (n i : Nat) (h : List Nat) (ps : List (List Nat)) (hn : 2 ≤ n) (hp : ps.length ≠ 0) (hi : splitL n ≤ i) :
    pathL n i h ps = (nodeL (ps.getD (ps.length - 1) []) (pathL (n - splitL n) (i - splitL n) h (ps.take (ps.length - 1))).1, (pathL (n - splitL n) (i - splitL n) h (ps.take (ps.length - 1))).2) := by
  obtain ⟨m, rfl⟩ : ∃ m, n = m + 1 := ⟨n - 1, by omega⟩
  have hk := splitL_bd (m + 1) hn
  conv => lhs; unfold pathL; simp only [pathF]
  rw [if_neg (by omega), if_neg hp, if_neg (by omega), pathF_fuel m _ _ _ _ (by omega) (by omega)]
theorem take_last (ps : List (List Nat)) (hp : ps.length ≠ 0) : ps = ps.take (ps.length - 1) ++ [ps.getD (ps.length - 1) []] := by
  have h : ps.length - 1 < ps.length := by omega
  have e := List.take_succ_eq_append_getElem (l := ps) h
  rw [show ps.length - 1 + 1 = ps.length by omega, List.take_length] at e
  rw [List.getD_eq_getElem?_getD, List.getElem?_eq_getElem h]
  exact e
/-- the reference's Path is the fold over the sides -/
theorem pathL_eq : ∀ (n i : Nat) (h : List Nat) (ps : List (List Nat)), 1 ≤ n → i < n →
    (pathL n i h ps).2 = decide (ps.length = (sidesL n i).length) ∧ (ps.length = (sidesL n i).length → (pathL n i h ps).1 = foldS h (sidesL n i) ps) := by
  intro n
  induction n using Nat.strongRecOn with
  | ind n ih =>
    intro i h ps h1 hi
    rcases Nat.lt_or_ge n 2 with h2 | h2
    · obtain rfl : n = 1 := by omega
      rw [pathL_one, sidesL_one 1 i (by omega)]
      exact ⟨rfl, fun _ => by cases ps <;> rfl⟩
    · have hk := splitL_bd n h2
      by_cases hp : ps.length = 0
      · rw [pathL_nil n i h ps h2 hp]
        have hne : (sidesL n i).length ≠ 0 := by
          rcases Nat.lt_or_ge i (splitL n) with hlo | hhi
          · rw [sidesL_lo n i h2 hlo]; simp
          · rw [sidesL_hi n i h2 hhi]; simp
        refine ⟨?_, fun e => absurd (e.symm.trans hp) hne⟩
        symm; rw [decide_eq_false_iff_not]; omega
      · have hl : (ps.take (ps.length - 1)).length = ps.length - 1 := by rw [List.length_take]; omega
        rcases Nat.lt_or_ge i (splitL n) with hlo | hhi
        · obtain ⟨e1, e2⟩ := ih (splitL n) (by omega) i h (ps.take (ps.length - 1)) (by omega) hlo
          rw [hl] at e1 e2
          rw [pathL_lo n i h ps h2 hp hlo, sidesL_lo n i h2 hlo, List.length_append, List.length_singleton]
          refine ⟨?_, fun e => ?_⟩
          · show (pathL (splitL n) i h (ps.take (ps.length - 1))).2 = _
            rw [e1]; exact decide_eq_decide.2 (by omega)
          · show nodeL (pathL (splitL n) i h (ps.take (ps.length - 1))).1 (ps.getD (ps.length - 1) []) = _
            conv => rhs; rw [take_last ps hp]
            rw [foldS_snoc _ _ _ _ _ (by rw [hl]; omega), e2 (by omega)]; rfl
        · obtain ⟨e1, e2⟩ := ih (n - splitL n) (by omega) (i - splitL n) h (ps.take (ps.length - 1)) (by omega) (by omega)
          rw [hl] at e1 e2
          rw [pathL_hi n i h ps h2 hp hhi, sidesL_hi n i h2 hhi, List.length_append, List.length_singleton]
          refine ⟨?_, fun e => ?_⟩
          · show (pathL (n - splitL n) (i - splitL n) h (ps.take (ps.length - 1))).2 = _
            rw [e1]; exact decide_eq_decide.2 (by omega)
          · show nodeL (ps.getD (ps.length - 1) []) (pathL (n - splitL n) (i - splitL n) h (ps.take (ps.length - 1))).1 = _
            conv => rhs; rw [take_last ps hp]
            rw [foldS_snoc _ _ _ _ _ (by rw [hl]; omega), e2 (by omega)]; rfl
/-- a proof has the length of its sides and folds to the root -/
theorem proveL_ok : ∀ (n : Nat) (l : List (List Nat)) (i : Nat), l.length = n → i < n → (proveL l i).length = (sidesL n i).length ∧ foldS (leafL (l.getD i [])) (sidesL n i) (proveL l i) = mrootL l := by
  intro n
  induction n using Nat.strongRecOn with
  | ind n ih =>
    intro l i hl hi
    rcases Nat.lt_or_ge n 2 with h2 | h2
    · obtain rfl : n = 1 := by omega
      obtain rfl : i = 0 := by omega
      rw [proveL_one l 0 (by omega), sidesL_one 1 0 (by omega), mrootL_one l hl]
      exact ⟨rfl, rfl⟩
    · have hk := splitL_bd n h2
      have hn := proveL_node l i (by omega)
      have hr := mrootL_node l (by omega)
      rw [hl] at hn hr
      rcases Nat.lt_or_ge i (splitL n) with hlo | hhi
      · rw [if_pos hlo] at hn
        obtain ⟨e1, e2⟩ := ih (splitL n) (by omega) (l.take (splitL n)) i (by rw [List.length_take]; omega) hlo
        rw [getD_take hlo] at e2
        rw [hn, sidesL_lo n i h2 hlo, foldS_snoc _ _ _ _ _ e1.symm, e2, hr]
        exact ⟨by simp [e1], rfl⟩
      · rw [if_neg (by omega)] at hn
        obtain ⟨e1, e2⟩ := ih (n - splitL n) (by omega) (l.drop (splitL n)) (i - splitL n) (by rw [List.length_drop]; omega) (by omega)
        rw [getD_drop, show splitL n + (i - splitL n) = i by omega] at e2
        rw [hn, sidesL_hi n i h2 hhi, foldS_snoc _ _ _ _ _ e1.symm, e2, hr]
        exact ⟨by simp [e1], rfl⟩
/-- the bits of n - 1 bound the length of a path -/
def bitsN : Nat → Nat → Nat
  | 0, _ => 0
  | f + 1, n => if 0 < n then 1 + bitsN f (n / 2) else 0
theorem splitL_le_pow (j n : Nat) (h2 : 2 ≤ n) (h : n ≤ 2 ^ (j + 1)) : splitL n ≤ 2 ^ j := by
  have key : ∀ (f a : Nat), a ≤ j → splitGo f (2 ^ a) n ≤ 2 ^ j := by
    intro f
    induction f with
    | zero => intro a ha; exact Nat.pow_le_pow_right (by omega) ha
    | succ f ih =>
      intro a ha
      unfold splitGo
      have hp : 2 * 2 ^ a = 2 ^ (a + 1) := by rw [Nat.pow_succ, Nat.mul_comm]
      rw [hp]
      split
      · rename_i hlt
        refine ih (a + 1) ?_
        rcases Nat.lt_or_ge j (a + 1) with hj | hj
        · have := Nat.pow_le_pow_right (show 0 < 2 by omega) (show j + 1 ≤ a + 1 by omega); omega
        · exact hj
      · exact Nat.pow_le_pow_right (by omega) ha
  exact key n 0 (Nat.zero_le _)
theorem sidesT_pow : ∀ (j f n i : Nat), n ≤ 2 ^ j → (sidesT f n i).length ≤ j
  | _, 0, _, _, _ => Nat.zero_le _
  | 0, f + 1, n, i, h => by simp only [sidesT]; rw [if_neg (by simp at h; omega)]; exact Nat.zero_le _
  | j + 1, f + 1, n, i, h => by
    simp only [sidesT]
    split
    · rename_i h1
      have hk := splitL_bd n h1
      have hs := splitL_le_pow j n h1 h
      split
      · have := sidesT_pow j f (n - splitL n) (i - splitL n) (by omega); simp; omega
      · have := sidesT_pow j f (splitL n) i hs; simp; omega
    · exact Nat.zero_le _
theorem bitsN_pow : ∀ (f n : Nat), n ≤ f → n < 2 ^ bitsN f n
  | 0, n, h => by simp [bitsN]; omega
  | f + 1, n, h => by
    unfold bitsN
    split
    · have := bitsN_pow f (n / 2) (by omega)
      rw [Nat.add_comm, Nat.pow_succ]; omega
    · simp; omega
theorem sidesL_bits (n i : Nat) (h : 1 ≤ n) : (sidesL n i).length ≤ bitsN (n - 1) (n - 1) := by
  unfold sidesL
  rw [List.length_reverse]
  have := bitsN_pow (n - 1) (n - 1) (Nat.le_refl _)
  exact sidesT_pow _ n n i (by omega)
end Go.Proofs.YtediocpdpghbfaaDoor
namespace Go.Proofs.YtediocpdpghbfaaDoor
open Go Go.RowKit

def lenF : Nat → Nat → Nat → Bool → Nat
  | 0, _, _, _ => 0
  | f + 1, m, n, w => if m = n then (if w then 0 else 1) else if splitL n < m then 1 + lenF f (m - splitL n) (n - splitL n) false else 1 + lenF f m (splitL n) w
def lenC (m n : Nat) (w : Bool) : Nat := lenF n m n w
theorem lenF_fuel : ∀ f m n w, 1 ≤ m → m ≤ n → n ≤ f → lenF f m n w = lenC m n w := by
  intro f
  induction f using Nat.strongRecOn with
  | ind f ih =>
    intro m n w h1 hm hn
    obtain ⟨f, rfl⟩ : ∃ f', f = f' + 1 := ⟨f - 1, by omega⟩
    obtain ⟨r, rfl⟩ : ∃ r, n = r + 1 := ⟨n - 1, by omega⟩
    unfold lenC
    simp only [lenF]
    by_cases he : m = r + 1
    · rw [if_pos he, if_pos he]
    · have hk := splitL_bd (r + 1) (by omega)
      generalize hs : splitL (r + 1) = k at *
      rw [if_neg he, if_neg he]
      by_cases hlt : k < m
      · rw [if_pos hlt, if_pos hlt, ih f (by omega) (m - k) (r + 1 - k) false (by omega) (by omega) (by omega)]
        rcases Nat.lt_or_ge r f with h | h
        · rw [ih r (by omega) (m - k) (r + 1 - k) false (by omega) (by omega) (by omega)]
        · obtain rfl : r = f := by omega
          rw [ih r (by omega) (m - k) (r + 1 - k) false (by omega) (by omega) (by omega)]
      · rw [if_neg hlt, if_neg hlt, ih f (by omega) m k w (by omega) (by omega) (by omega)]
        rcases Nat.lt_or_ge r f with h | h
        · rw [ih r (by omega) m k w (by omega) (by omega) (by omega)]
        · obtain rfl : r = f := by omega
          rw [ih r (by omega) m k w (by omega) (by omega) (by omega)]
theorem lenC_eq (m : Nat) (w : Bool) (h : 1 ≤ m) : lenC m m w = if w then 0 else 1 := by
  obtain ⟨r, rfl⟩ : ∃ r, m = r + 1 := ⟨m - 1, by omega⟩
  unfold lenC; simp only [lenF]; rw [if_pos trivial]
theorem lenC_hi (m n : Nat) (w : Bool) (h : 1 ≤ m) (hm : m < n) (hk : splitL n < m) : lenC m n w = 1 + lenC (m - splitL n) (n - splitL n) false := by
  obtain ⟨r, rfl⟩ : ∃ r, n = r + 1 := ⟨n - 1, by omega⟩
  have hb := splitL_bd (r + 1) (by omega)
  conv => lhs; unfold lenC; simp only [lenF]
  rw [if_neg (by omega), if_pos hk, lenF_fuel _ _ _ _ (by omega) (by omega) (by omega)]
theorem lenC_lo (m n : Nat) (w : Bool) (h : 1 ≤ m) (hm : m < n) (hk : m ≤ splitL n) : lenC m n w = 1 + lenC m (splitL n) w := by
  obtain ⟨r, rfl⟩ : ∃ r, n = r + 1 := ⟨n - 1, by omega⟩
  have hb := splitL_bd (r + 1) (by omega)
  conv => lhs; unfold lenC; simp only [lenF]
  rw [if_neg (by omega), if_neg (by omega), lenF_fuel _ _ _ _ (by omega) (by omega) (by omega)]
/-- the program's fold -/
def foldF : Nat → Nat → Nat → Bool → List Nat → List (List Nat) → List Nat × List Nat
  | 0, _, _, _, o, _ => (o, o)
  | f + 1, m, n, w, o, ps =>
    if m = n then (if w then (o, o) else (ps.getD 0 [], ps.getD 0 [])) else
    if m ≤ splitL n then ((foldF f m (splitL n) w o (ps.take (ps.length - 1))).1, nodeL (foldF f m (splitL n) w o (ps.take (ps.length - 1))).2 (ps.getD (ps.length - 1) []))
    else (nodeL (ps.getD (ps.length - 1) []) (foldF f (m - splitL n) (n - splitL n) false o (ps.take (ps.length - 1))).1, nodeL (ps.getD (ps.length - 1) []) (foldF f (m - splitL n) (n - splitL n) false o (ps.take (ps.length - 1))).2)
def foldC (m n : Nat) (w : Bool) (o : List Nat) (ps : List (List Nat)) : List Nat × List Nat := foldF n m n w o ps
theorem foldF_fuel : ∀ f m n w o ps, 1 ≤ m → m ≤ n → n ≤ f → foldF f m n w o ps = foldC m n w o ps := by
  intro f
  induction f using Nat.strongRecOn with
  | ind f ih =>
    intro m n w o ps h1 hm hn
    obtain ⟨f, rfl⟩ : ∃ f', f = f' + 1 := ⟨f - 1, by omega⟩
    obtain ⟨r, rfl⟩ : ∃ r, n = r + 1 := ⟨n - 1, by omega⟩
    unfold foldC
    simp only [foldF]
    by_cases he : m = r + 1
    · rw [if_pos he, if_pos he]
    · have hk := splitL_bd (r + 1) (by omega)
      generalize hs : splitL (r + 1) = k at *
      rw [if_neg he, if_neg he]
      by_cases hlt : m ≤ k
      · rw [if_pos hlt, if_pos hlt, ih f (by omega) m k w o _ (by omega) (by omega) (by omega)]
        rcases Nat.lt_or_ge r f with h | h
        · rw [ih r (by omega) m k w o _ (by omega) (by omega) (by omega)]
        · obtain rfl : r = f := by omega
          rw [ih r (by omega) m k w o _ (by omega) (by omega) (by omega)]
      · rw [if_neg hlt, if_neg hlt, ih f (by omega) (m - k) (r + 1 - k) false o _ (by omega) (by omega) (by omega)]
        rcases Nat.lt_or_ge r f with h | h
        · rw [ih r (by omega) (m - k) (r + 1 - k) false o _ (by omega) (by omega) (by omega)]
        · obtain rfl : r = f := by omega
          rw [ih r (by omega) (m - k) (r + 1 - k) false o _ (by omega) (by omega) (by omega)]
theorem foldC_eq (m : Nat) (w : Bool) (o : List Nat) (ps : List (List Nat)) (h : 1 ≤ m) : foldC m m w o ps = if w then (o, o) else (ps.getD 0 [], ps.getD 0 []) := by
  obtain ⟨r, rfl⟩ : ∃ r, m = r + 1 := ⟨m - 1, by omega⟩
  unfold foldC; simp only [foldF]; rw [if_pos trivial]
theorem foldC_lo (m n : Nat) (w : Bool) (o : List Nat) (ps : List (List Nat)) (h : 1 ≤ m) (hm : m < n) (hk : m ≤ splitL n) :
    foldC m n w o ps = ((foldC m (splitL n) w o (ps.take (ps.length - 1))).1, nodeL (foldC m (splitL n) w o (ps.take (ps.length - 1))).2 (ps.getD (ps.length - 1) [])) := by
  obtain ⟨r, rfl⟩ : ∃ r, n = r + 1 := ⟨n - 1, by omega⟩
  have hb := splitL_bd (r + 1) (by omega)
  conv => lhs; unfold foldC; simp only [foldF]
  rw [if_neg (by omega), if_pos hk, foldF_fuel _ _ _ _ _ _ (by omega) (by omega) (by omega)]
theorem foldC_hi (m n : Nat) (w : Bool) (o : List Nat) (ps : List (List Nat)) (h : 1 ≤ m) (hm : m < n) (hk : splitL n < m) :
    foldC m n w o ps = (nodeL (ps.getD (ps.length - 1) []) (foldC (m - splitL n) (n - splitL n) false o (ps.take (ps.length - 1))).1, nodeL (ps.getD (ps.length - 1) []) (foldC (m - splitL n) (n - splitL n) false o (ps.take (ps.length - 1))).2) := by
  obtain ⟨r, rfl⟩ : ∃ r, n = r + 1 := ⟨n - 1, by omega⟩
  have hb := splitL_bd (r + 1) (by omega)
  conv => lhs; unfold foldC; simp only [foldF]
  rw [if_neg (by omega), if_neg (by omega), foldF_fuel _ _ _ _ _ _ (by omega) (by omega) (by omega)]
/-- the reference's both -/
def bothF : Nat → Nat → Nat → Bool → List Nat → List (List Nat) → List Nat × List Nat × Bool
  | 0, _, _, _, o, _ => (o, o, false)
  | f + 1, m, n, w, o, ps =>
    if m = n ∧ w = true then (o, o, decide (ps.length = 0)) else if ps.length = 0 then (o, o, false) else
    if m = n then (ps.getD (ps.length - 1) [], ps.getD (ps.length - 1) [], decide (ps.length = 1)) else
    if m ≤ splitL n then ((bothF f m (splitL n) w o (ps.take (ps.length - 1))).1, nodeL (bothF f m (splitL n) w o (ps.take (ps.length - 1))).2.1 (ps.getD (ps.length - 1) []), (bothF f m (splitL n) w o (ps.take (ps.length - 1))).2.2)
    else (nodeL (ps.getD (ps.length - 1) []) (bothF f (m - splitL n) (n - splitL n) false o (ps.take (ps.length - 1))).1, nodeL (ps.getD (ps.length - 1) []) (bothF f (m - splitL n) (n - splitL n) false o (ps.take (ps.length - 1))).2.1, (bothF f (m - splitL n) (n - splitL n) false o (ps.take (ps.length - 1))).2.2)
def bothL (m n : Nat) (w : Bool) (o : List Nat) (ps : List (List Nat)) : List Nat × List Nat × Bool := bothF n m n w o ps
theorem bothF_fuel : ∀ f m n w o ps, 1 ≤ m → m ≤ n → n ≤ f → bothF f m n w o ps = bothL m n w o ps := by
  intro f
  induction f using Nat.strongRecOn with
  | ind f ih =>
    intro m n w o ps h1 hm hn
    obtain ⟨f, rfl⟩ : ∃ f', f = f' + 1 := ⟨f - 1, by omega⟩
    obtain ⟨r, rfl⟩ : ∃ r, n = r + 1 := ⟨n - 1, by omega⟩
    unfold bothL
    simp only [bothF]
    by_cases hw : m = r + 1 ∧ w = true
    · rw [if_pos hw, if_pos hw]
    rw [if_neg hw, if_neg hw]
    by_cases hp : ps.length = 0
    · rw [if_pos hp, if_pos hp]
    rw [if_neg hp, if_neg hp]
    by_cases he : m = r + 1
    · rw [if_pos he, if_pos he]
    · have hk := splitL_bd (r + 1) (by omega)
      generalize hs : splitL (r + 1) = k at *
      rw [if_neg he, if_neg he]
      by_cases hlt : m ≤ k
      · rw [if_pos hlt, if_pos hlt, ih f (by omega) m k w o _ (by omega) (by omega) (by omega)]
        rcases Nat.lt_or_ge r f with h | h
        · rw [ih r (by omega) m k w o _ (by omega) (by omega) (by omega)]
        · obtain rfl : r = f := by omega
          rw [ih r (by omega) m k w o _ (by omega) (by omega) (by omega)]
      · rw [if_neg hlt, if_neg hlt, ih f (by omega) (m - k) (r + 1 - k) false o _ (by omega) (by omega) (by omega)]
        rcases Nat.lt_or_ge r f with h | h
        · rw [ih r (by omega) (m - k) (r + 1 - k) false o _ (by omega) (by omega) (by omega)]
        · obtain rfl : r = f := by omega
          rw [ih r (by omega) (m - k) (r + 1 - k) false o _ (by omega) (by omega) (by omega)]
theorem bothL_whole (m : Nat) (o : List Nat) (ps : List (List Nat)) (h : 1 ≤ m) : bothL m m true o ps = (o, o, decide (ps.length = 0)) := by
  obtain ⟨r, rfl⟩ : ∃ r, m = r + 1 := ⟨m - 1, by omega⟩
  unfold bothL; simp only [bothF]; rw [if_pos ⟨trivial, trivial⟩]
theorem bothL_nil (m n : Nat) (w : Bool) (o : List Nat) (ps : List (List Nat)) (h : 1 ≤ m) (hm : m ≤ n) (hw : ¬ (m = n ∧ w = true)) (hp : ps.length = 0) : bothL m n w o ps = (o, o, false) := by
  obtain ⟨r, rfl⟩ : ∃ r, n = r + 1 := ⟨n - 1, by omega⟩
  unfold bothL; simp only [bothF]; rw [if_neg hw, if_pos hp]
theorem bothL_eq (m : Nat) (o : List Nat) (ps : List (List Nat)) (h : 1 ≤ m) (hp : ps.length ≠ 0) : bothL m m false o ps = (ps.getD (ps.length - 1) [], ps.getD (ps.length - 1) [], decide (ps.length = 1)) := by
  obtain ⟨r, rfl⟩ : ∃ r, m = r + 1 := ⟨m - 1, by omega⟩
  unfold bothL; simp only [bothF]; rw [if_neg (by simp), if_neg hp, if_pos trivial]
theorem bothL_lo (m n : Nat) (w : Bool) (o : List Nat) (ps : List (List Nat)) (h : 1 ≤ m) (hm : m < n) (hp : ps.length ≠ 0) (hk : m ≤ splitL n) :
    bothL m n w o ps = ((bothL m (splitL n) w o (ps.take (ps.length - 1))).1, nodeL (bothL m (splitL n) w o (ps.take (ps.length - 1))).2.1 (ps.getD (ps.length - 1) []), (bothL m (splitL n) w o (ps.take (ps.length - 1))).2.2) := by
  obtain ⟨r, rfl⟩ : ∃ r, n = r + 1 := ⟨n - 1, by omega⟩
  have hb := splitL_bd (r + 1) (by omega)
  conv => lhs; unfold bothL; simp only [bothF]
  rw [if_neg (by omega), if_neg hp, if_neg (by omega), if_pos hk, bothF_fuel _ _ _ _ _ _ (by omega) (by omega) (by omega)]
theorem bothL_hi (m n : Nat) (w : Bool) (o : List Nat) (ps : List (List Nat)) (h : 1 ≤ m) (hm : m < n) (hp : ps.length ≠ 0) (hk : splitL n < m) :
    bothL m n w o ps = (nodeL (ps.getD (ps.length - 1) []) (bothL (m - splitL n) (n - splitL n) false o (ps.take (ps.length - 1))).1, nodeL (ps.getD (ps.length - 1) []) (bothL (m - splitL n) (n - splitL n) false o (ps.take (ps.length - 1))).2.1, (bothL (m - splitL n) (n - splitL n) false o (ps.take (ps.length - 1))).2.2) := by
  obtain ⟨r, rfl⟩ : ∃ r, n = r + 1 := ⟨n - 1, by omega⟩
  have hb := splitL_bd (r + 1) (by omega)
  conv => lhs; unfold bothL; simp only [bothF]
  rw [if_neg (by omega), if_neg hp, if_neg (by omega), if_neg (by omega), bothF_fuel _ _ _ _ _ _ (by omega) (by omega) (by omega)]
theorem both_fold : ∀ (n m : Nat) (w : Bool) (o : List Nat) (ps : List (List Nat)), 1 ≤ m → m ≤ n →
    (bothL m n w o ps).2.2 = decide (ps.length = lenC m n w) ∧ (ps.length = lenC m n w → (bothL m n w o ps).1 = (foldC m n w o ps).1 ∧ (bothL m n w o ps).2.1 = (foldC m n w o ps).2) := by
  intro n
  induction n using Nat.strongRecOn with
  | ind n ih =>
    intro m w o ps h1 hm
    by_cases he : m = n
    · subst he
      cases w with
      | true => rw [bothL_whole m o ps h1, lenC_eq m true h1, foldC_eq m true o ps h1]; exact ⟨rfl, fun _ => ⟨rfl, rfl⟩⟩
      | false =>
        rw [lenC_eq m false h1, foldC_eq m false o ps h1]
        by_cases hp : ps.length = 0
        · rw [bothL_nil m m false o ps h1 (Nat.le_refl _) (by simp) hp]
          refine ⟨by symm; rw [decide_eq_false_iff_not]; simp; intro e; rw [e] at hp; simp at hp, fun e => ?_⟩
          simp at e; rw [e] at hp; simp at hp
        · rw [bothL_eq m o ps h1 hp]
          refine ⟨rfl, fun e => ?_⟩
          have e1 : ps.length = 1 := by simpa using e
          rw [e1]; exact ⟨rfl, rfl⟩
    · have hk := splitL_bd n (by omega)
      have hlt : m < n := by omega
      by_cases hp : ps.length = 0
      · rw [bothL_nil m n w o ps h1 hm (by omega) hp]
        have hne : lenC m n w ≠ 0 := by
          rcases Nat.lt_or_ge (splitL n) m with h | h
          · rw [lenC_hi m n w h1 hlt h]; omega
          · rw [lenC_lo m n w h1 hlt h]; omega
        refine ⟨by symm; rw [decide_eq_false_iff_not]; omega, fun e => by omega⟩
      · have hl : (ps.take (ps.length - 1)).length = ps.length - 1 := by rw [List.length_take]; omega
        rcases Nat.lt_or_ge (splitL n) m with h | h
        · obtain ⟨e1, e2⟩ := ih (n - splitL n) (by omega) (m - splitL n) false o (ps.take (ps.length - 1)) (by omega) (by omega)
          rw [hl] at e1 e2
          rw [bothL_hi m n w o ps h1 hlt hp h, lenC_hi m n w h1 hlt h, foldC_hi m n w o ps h1 hlt h]
          refine ⟨e1.trans (decide_eq_decide.2 (by omega)), fun e => ?_⟩
          obtain ⟨f1, f2⟩ := e2 (by omega)
          exact ⟨by simp only; rw [f1], by simp only; rw [f2]⟩
        · obtain ⟨e1, e2⟩ := ih (splitL n) (by omega) m w o (ps.take (ps.length - 1)) (by omega) (by omega)
          rw [hl] at e1 e2
          rw [bothL_lo m n w o ps h1 hlt hp h, lenC_lo m n w h1 hlt h, foldC_lo m n w o ps h1 hlt h]
          refine ⟨e1.trans (decide_eq_decide.2 (by omega)), fun e => ?_⟩
          obtain ⟨f1, f2⟩ := e2 (by omega)
          exact ⟨by simp only; rw [f1], by simp only; rw [f2]⟩
theorem pow_between (n : Nat) (h : 2 ≤ n) : ∃ j, 2 ^ j < n ∧ n ≤ 2 ^ (j + 1) := by
  have key : ∀ j, n ≤ 2 ^ j → ∃ j, 2 ^ j < n ∧ n ≤ 2 ^ (j + 1) := by
    intro j
    induction j with
    | zero => intro hj; simp at hj; omega
    | succ j ih =>
      intro hj
      rcases Nat.lt_or_ge (2 ^ j) n with hlt | hge
      · exact ⟨j, hlt, hj⟩
      · exact ih hge
  exact key n (Nat.le_of_lt Nat.lt_two_pow_self)
theorem splitL_same (n m : Nat) (h : 2 ≤ n) (h1 : splitL n < m) (h2 : m ≤ n) : splitL m = splitL n := by
  obtain ⟨j, hj1, hj2⟩ := pow_between n h
  have hs := splitL_pow j n hj1 hj2
  rw [hs] at h1 ⊢
  exact splitL_pow j m h1 (by omega)
/-- a consistency proof has its length and folds to the two roots -/
theorem sub_ok : ∀ (n : Nat) (l : List (List Nat)) (m : Nat) (w : Bool) (o : List Nat), l.length = n → 1 ≤ m → m ≤ n → (w = true → o = mrootL (l.take m)) →
    (subL l m w).length = lenC m n w ∧ foldC m n w o (subL l m w) = (mrootL (l.take m), mrootL l) := by
  intro n
  induction n using Nat.strongRecOn with
  | ind n ih =>
    intro l m w o hl h1 hm ho
    by_cases he : m = n
    · subst he
      rw [subL_eq l m w h1 hl.symm, lenC_eq m w h1, foldC_eq m w o _ h1, List.take_of_length_le (by omega)]
      cases w with
      | true => have := ho rfl; rw [List.take_of_length_le (by omega)] at this; rw [this]; exact ⟨rfl, rfl⟩
      | false => exact ⟨rfl, rfl⟩
    · have hlt : m < n := by omega
      have hk := splitL_bd n (by omega)
      have hs := subL_node l m w h1 (by omega)
      have hr := mrootL_node l (by omega)
      rw [hl] at hs hr
      have hlast : ∀ (x : List (List Nat)) (y : List Nat), (x ++ [y]).getD ((x ++ [y]).length - 1) [] = y ∧ (x ++ [y]).take ((x ++ [y]).length - 1) = x := fun x y => by simp
      rcases Nat.lt_or_ge (splitL n) m with h | h
      · rw [if_neg (by omega)] at hs
        obtain ⟨e1, e2⟩ := ih (n - splitL n) (by omega) (l.drop (splitL n)) (m - splitL n) false o (by rw [List.length_drop]; omega) (by omega) (by omega) (by simp)
        rw [lenC_hi m n w h1 hlt h, foldC_hi m n w o _ h1 hlt h, hs, (hlast _ _).1, (hlast _ _).2, e2]
        refine ⟨by simp [e1]; omega, ?_⟩
        have hq := mrootL_node (l.take m) (by rw [List.length_take]; omega)
        rw [List.length_take, show min m l.length = m by omega, splitL_same n m (by omega) h (by omega), List.take_take, show min (splitL n) m = splitL n by omega, List.drop_take] at hq
        rw [hr, hq]
      · rw [if_pos h] at hs
        obtain ⟨e1, e2⟩ := ih (splitL n) (by omega) (l.take (splitL n)) m w o (by rw [List.length_take]; omega) (by omega) (by omega) (fun hw => by rw [List.take_take, show min m (splitL n) = m by omega]; exact ho hw)
        rw [List.take_take, show min m (splitL n) = m by omega] at e2
        rw [lenC_lo m n w h1 hlt h, foldC_lo m n w o _ h1 hlt h, hs, (hlast _ _).1, (hlast _ _).2, e2, hr]
        exact ⟨by simp [e1]; omega, rfl⟩
end Go.Proofs.YtediocpdpghbfaaDoor
