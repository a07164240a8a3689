/- A region that draws its order, walked in one order, where an act that waits for everything before it (a store at the end) need not leave the world as it was. Over any program. -/
import Derived.Test.YtediocpdpghbfaaDoorRegs
set_option linter.unusedSimpArgs false
set_option linter.unusedVariables false
namespace Go.Proofs.YtediocpdpghbfaaDoor
open Go Go.RowKit

section
variable {P : Program} {ops : Array Oper} {Q : Exit → Act → World → Prop} {S : World → Prop}

/-- whom an operation waits for, as a number's bits: acc has the numbers of the operations before it -/
def ancMask (acc : List Nat) (o : Oper) : Nat := o.after.toList.foldl (fun m e => if Region.binds .any e then m ||| (2 ^ e.on ||| acc.getD e.on 0) else m) 0
def ancGo : List Oper → List Nat → List Nat
  | [], acc => acc
  | o :: l, acc => ancGo l (acc ++ [ancMask acc o])
def ancs (ops : Array Oper) : List Nat := ancGo ops.toList []
theorem fold_bits (acc : List Nat) (i : Nat) : ∀ (l : List Edge) (m : Nat), (l.foldl (fun m e => if Region.binds .any e then m ||| (2 ^ e.on ||| acc.getD e.on 0) else m) m).testBit i = true →
    m.testBit i = true ∨ ∃ e ∈ l, Region.binds .any e = true ∧ (e.on = i ∨ (acc.getD e.on 0).testBit i = true)
  | [], m, h => .inl h
  | e :: l, m, h => by
    simp only [List.foldl_cons] at h
    rcases fold_bits acc i l _ h with h | ⟨e', he', hb⟩
    · split at h
      · rename_i hb
        rw [Nat.testBit_or, Nat.testBit_or, Bool.or_eq_true, Bool.or_eq_true, Nat.testBit_two_pow] at h
        rcases h with h | h | h
        · exact .inl h
        · exact .inr ⟨e, List.mem_cons_self .., hb, .inl (by simpa using h)⟩
        · exact .inr ⟨e, List.mem_cons_self .., hb, .inr h⟩
      · exact .inl h
    · exact .inr ⟨e', List.mem_cons_of_mem _ he', hb⟩
def Closed (ops : Array Oper) (listed : Array Bool) : Prop := ∀ (j : Nat) (o : Oper), ops[j]? = some o → listed.getD j false = true → ∀ e ∈ o.after, Region.binds .any e = true → listed.getD e.on false = true
/-- the numbers of acc speak of the operations before number k, and say what is so -/
def AncOk (ops : Array Oper) (acc : List Nat) : Prop := ∀ (j : Nat) (o : Oper), ops[j]? = some o → ∀ i, (acc.getD j 0).testBit i = true →
  ∀ listed, Closed ops listed → (∀ e ∈ o.after, Region.binds .any e = true → listed.getD e.on false = true) → listed.getD i false = true
theorem anc_go : ∀ (l : List Oper) (acc : List Nat), (∀ j, l[j]? = ops[acc.length + j]?) → AncOk ops acc → AncOk ops (ancGo l acc)
  | [], acc, _, h => h
  | o :: l, acc, hl, h => by
    unfold ancGo
    have h0 : ops[acc.length]? = some o := by simpa using (hl 0).symm
    refine anc_go l _ (fun j => by have := hl (j + 1); simp only [List.length_append, List.length_cons, List.length_nil]; simpa [Nat.add_assoc, Nat.add_comm 1 j] using this) ?_
    intro j oj hj i hb listed hc hall
    rcases Nat.lt_trichotomy j acc.length with hlt | he | hgt
    · refine h j oj hj i ?_ listed hc hall
      rwa [List.getD_eq_getElem?_getD, List.getElem?_append_left hlt, ← List.getD_eq_getElem?_getD] at hb
    · subst he
      rw [h0] at hj
      obtain rfl := Option.some.inj hj
      simp only [List.getD_eq_getElem?_getD, List.getElem?_append_right (Nat.le_refl _), Nat.sub_self, List.getElem?_cons_zero, Option.getD_some] at hb
      rcases fold_bits acc i _ 0 hb with h1 | ⟨e, he, hbd, h1 | h1⟩
      · simp at h1
      · subst h1; exact hall e (by simpa using he) hbd
      · have hon := hall e (by simpa using he) hbd
        cases hoe : ops[e.on]? with
        | none =>
          exfalso
          have : acc.length ≤ e.on := by
            have := Array.getElem?_eq_none_iff.1 hoe
            have hk : acc.length < ops.size := (Array.getElem?_eq_some_iff.1 h0).1
            omega
          rw [List.getD_eq_getElem?_getD, List.getElem?_eq_none this] at h1
          simp at h1
        | some oe => exact h e.on oe hoe i h1 listed hc (hc e.on oe hoe hon)
    · rw [List.getD_eq_getElem?_getD, List.getElem?_eq_none (by simp; omega)] at hb
      simp at hb
theorem ancs_ok : AncOk ops (ancs ops) := anc_go ops.toList [] (by simp) (fun j o _ i h => by simp at h)

/-- operation j waits, through others too, for everything that has come up -/
def barrier (ops : Array Oper) (j : Nat) (listed : Array Bool) : Bool :=
  (List.range ops.size).all fun i => !listed.getD i false || ((ancs ops).getD j 0).testBit i

theorem closed_set {j : Nat} {listed : Array Bool} (hc : Closed ops listed) (hj : j ∈ Region.ready .any ops listed) : Closed ops (listed.setIfInBounds j true) := by
  obtain ⟨_, oj, hoj, hall⟩ := mem_ready.1 hj
  intro k o ho hk e he hb
  by_cases hkj : j = k
  · subst hkj
    rw [hoj] at ho
    obtain rfl := Option.some.inj ho
    exact getD_set_true (hall e he hb)
  · rw [getD_set_ne false hkj] at hk
    exact getD_set_true (hc k o ho hk e he hb)
def wpX (P : Program) (ops : Array Oper) (Q : Exit → Act → World → Prop) (S : World → Prop) : Nat → Array Bool → Act → World → Prop
  | 0, listed, a, w => Region.ready .any ops listed = [] ∧ Q .normal a w
  | fuel + 1, listed, a, w =>
    (Region.ready .any ops listed = [] → Q .normal a w) ∧
    ∀ i ∈ Region.ready .any ops listed, wpOp P ops Q i (fun a' w' => if barrier ops i listed = true then wpAny P .any ops Q fuel (listed.setIfInBounds i true) a' w' else S w' ∧ wpX P ops Q S fuel (listed.setIfInBounds i true) a' w') a w

theorem any_of_x : ∀ (fuel : Nat) (listed : Array Bool) (a : Act) (w : World), wpX P ops Q S fuel listed a w → wpAny P .any ops Q fuel listed a w
  | 0, _, _, _, h => h
  | fuel + 1, _, _, _, h => ⟨h.1, fun i hi => wpOp_mono (fun a' w' h' => by
      split at h'
      · exact h'
      · exact any_of_x fuel _ a' w' h'.2) (h.2 i hi)⟩
theorem wpX_weaken {S' : World → Prop} (hS : ∀ w, S' w → S w) : ∀ (fuel : Nat) (listed : Array Bool) (a : Act) (w : World), wpX P ops Q S' fuel listed a w → wpX P ops Q S fuel listed a w
  | 0, _, _, _, h => h
  | fuel + 1, _, _, _, h => ⟨h.1, fun i hi => wpOp_mono (fun a' w' h' => by
      split at h'
      · rw [if_pos ‹_›]; exact h'
      · rw [if_neg ‹_›]; exact ⟨hS _ h'.1, wpX_weaken hS fuel _ a' w' h'.2⟩) (h.2 i hi)⟩

/-- what floats over j is not waited for by j -/
theorem no_barrier {i j : Nat} {listed : Array Bool} (hc : Closed ops listed) (hi : i ∈ Region.ready .any ops listed) (hj : j ∈ Region.ready .any ops listed) : barrier ops j (listed.setIfInBounds i true) = false := by
  obtain ⟨hiu, oi, hoi, _⟩ := mem_ready.1 hi
  obtain ⟨hju, oj, hoj, hall⟩ := mem_ready.1 hj
  have hin : i < ops.size := (Array.getElem?_eq_some_iff.1 hoi).1
  have hil : i < listed.size := by
    rcases Nat.lt_or_ge i listed.size with h | h
    · exact h
    · simp [Array.getElem?_eq_none h] at hiu
  have hl : (listed.setIfInBounds i true).getD i false = true := by simp [hil]
  have hno : ((ancs ops).getD j 0).testBit i = false := by
    rw [Bool.eq_false_iff]
    intro h
    have := ancs_ok j oj hoj i h listed hc hall
    simp [hil] at hiu this
    rw [hiu] at this
    cases this
  unfold barrier
  rw [Bool.eq_false_iff]
  intro h
  have h1 := List.all_eq_true.1 h i (List.mem_range.2 hin)
  rw [hl, hno] at h1
  cases h1

theorem wpX_first {i : Nat} {oi : Oper} {v : Value} (hi : ops[i]? = some oi) (hsel : ∀ (j : Nat) (o : Oper) cs b, ops[j]? = some o → o.op ≠ .select cs b)
    (hQ : ∀ c a w, Q (.panic c) (a.put oi.dst v) w → Q (.panic c) a w) :
    ∀ (fuel : Nat) (listed : Array Bool) (a : Act) (w : World), Closed ops listed →
      (∀ j oj, ops[j]? = some oj → j ≠ i → listed.getD j true = false → (∀ e ∈ oj.after, Region.binds .any e = true → e.on ≠ i) → oi.apart ops oj = true) →
      i ∈ Region.ready .any ops listed → YieldsIf P ops S oi v a → S w →
      wpX P ops Q S fuel (listed.setIfInBounds i true) (a.put oi.dst v) w → wpX P ops Q S (fuel + 1) listed a w
  | 0, listed, a, w, _, _, hr, hy, hS, H => by
    refine ⟨fun h => (by rw [h] at hr; cases hr), fun j hj => ?_⟩
    by_cases hji : j = i
    · subst hji
      refine hy.wpOp hi hS ?_
      split
      · exact any_of_x _ _ _ _ H
      · exact ⟨hS, H⟩
    · have := ready_mono hj hji
      rw [H.1] at this
      cases this
  | fuel + 1, listed, a, w, hc, hfree, hr, hy, hS, H => by
    refine ⟨fun h => (by rw [h] at hr; cases hr), fun j hj => ?_⟩
    by_cases hji : j = i
    · subst hji
      refine hy.wpOp hi hS ?_
      split
      · exact any_of_x _ _ _ _ H
      · exact ⟨hS, H⟩
    have h1 := H.2 j (ready_mono hj hji)
    obtain ⟨hjun, oj, hoj, hall⟩ := mem_ready.1 hj
    have hnot : ∀ e ∈ oj.after, Region.binds .any e = true → e.on ≠ i := fun e he hb heq => by
      have h2 := hall e he hb
      have h0 := (mem_ready.1 hr).1
      rw [heq] at h2
      rcases Nat.lt_or_ge i listed.size with h' | h'
      · simp [h'] at h0 h2; rw [h0] at h2; cases h2
      · simp [Array.getElem?_eq_none h'] at h2
    have hnb := no_barrier hc hr hj
    simp only [hnb, Bool.false_eq_true, if_false] at h1
    have h2 := wpOp_putIf hoj (hfree j oj hoj hji hjun hnot) (fun cs b => hsel i oi cs b hi) (fun cs b => hsel j oj cs b hoj) hQ hy h1
    have hfree' : ∀ k ok, ops[k]? = some ok → k ≠ i → (listed.setIfInBounds j true).getD k true = false →
        (∀ e ∈ ok.after, Region.binds .any e = true → e.on ≠ i) → oi.apart ops ok = true := fun k ok hk hki hun hno => by
      refine hfree k ok hk hki ?_ hno
      by_cases hjk : j = k
      · subst hjk; exact hjun
      · rw [getD_set_ne true hjk] at hun; exact hun
    refine wpOp_mono (fun a' w' h3 => ?_) h2
    have hrec : wpX P ops Q S (fuel + 1) (listed.setIfInBounds j true) a' w' := by
      refine wpX_first hi hsel hQ fuel (listed.setIfInBounds j true) a' w' (closed_set hc hj) hfree' (ready_mono hr (Ne.symm hji)) h3.1 h3.2.1 ?_
      rw [Array.setIfInBounds_comm _ _ hji]
      exact h3.2.2
    split
    · exact any_of_x _ _ _ _ hrec
    · exact ⟨h3.2.1, hrec⟩

/-- one order of a region: (number, 0 it looks | 1 it acts | 2 it acts behind everything) -/
def wpIy (P : Program) (ops : Array Oper) (Q : Exit → Act → World → Prop) : List (Nat × Nat) → Act → World → Prop
  | [], a, w => Q .normal a w
  | (i, 0) :: rest, a, w => ∃ o v, ops[i]? = some o ∧ YieldsIf P ops (Below w.heap.size w) o v a ∧ wpIy P ops Q rest (a.put o.dst v) w
  | (i, 1) :: rest, a, w => wpOp P ops Q i (fun a' w' => Below w.heap.size w w' ∧ wpIy P ops Q rest a' w') a w
  | (i, _) :: rest, a, w => wpOp P ops Q i (fun a' w' => wpIy P ops Q rest a' w') a w
def iyB (ops : Array Oper) : List (Nat × Nat) → Array Bool → Bool
  | [], listed => (Region.ready .any ops listed).isEmpty
  | (i, 0) :: rest, listed => (Region.ready .any ops listed).contains i && Region.free .any ops listed i && iyB ops rest (listed.setIfInBounds i true)
  | (i, 1) :: rest, listed => (Region.ready .any ops listed == [i]) && iyB ops rest (listed.setIfInBounds i true)
  | (i, _) :: rest, listed => (Region.ready .any ops listed == [i]) && barrier ops i listed && iyB ops rest (listed.setIfInBounds i true)
theorem x_of_iy (hQ : ∀ c (a : Act) d v w, Q (.panic c) (a.put d v) w → Q (.panic c) a w) (hs : Region.noSelect ops = true) : ∀ (s : List (Nat × Nat)) (listed : Array Bool) (a : Act) (w : World), Closed ops listed →
    iyB ops s listed = true → wpIy P ops Q s a w → wpX P ops Q (Below w.heap.size w) s.length listed a w
  | [], listed, a, w, _, hB, h => ⟨by simpa [iyB] using hB, h⟩
  | (i, 0) :: rest, listed, a, w, hc, hB, h => by
    obtain ⟨o, v, ho, hy, hr⟩ := h
    simp only [iyB, Bool.and_eq_true] at hB
    exact wpX_first ho (Region.noSelect_spec hs) (fun c a w h => hQ c a _ _ w h) rest.length listed a w hc (Region.free_spec ho hB.1.2) (by simpa using hB.1.1) hy (Below.refl _ _) (x_of_iy hQ hs rest _ _ w (closed_set hc (by simpa using hB.1.1)) hB.2 hr)
  | (i, 1) :: rest, listed, a, w, hc, hB, h => by
    simp only [iyB, Bool.and_eq_true, beq_iff_eq] at hB
    refine ⟨fun h0 => (by rw [hB.1] at h0; cases h0), fun j hj => ?_⟩
    rw [hB.1] at hj
    obtain rfl : j = i := by simpa using hj
    refine wpOp_mono (fun a' w' h' => ?_) h
    have hrec := x_of_iy hQ hs rest _ a' w' (closed_set hc (by rw [hB.1]; simp)) hB.2 h'.2
    split
    · exact any_of_x _ _ _ _ hrec
    · exact ⟨h'.1, wpX_weaken (fun w'' hb => h'.1.trans (hb.mono h'.1.size)) _ _ _ _ hrec⟩
  | (i, k + 2) :: rest, listed, a, w, hc, hB, h => by
    simp only [iyB, Bool.and_eq_true, beq_iff_eq] at hB
    refine ⟨fun h0 => (by rw [hB.1.1] at h0; cases h0), fun j hj => ?_⟩
    rw [hB.1.1] at hj
    obtain rfl : j = i := by simpa using hj
    refine wpOp_mono (fun a' w' h' => ?_) h
    rw [if_pos hB.1.2]
    exact any_of_x _ _ _ _ (x_of_iy hQ hs rest _ a' w' (closed_set hc (by rw [hB.1.1]; simp)) hB.2 h')

theorem iy_of_list {X : Act → Prop} {rest : List (Nat × Nat)} : ∀ (l : List Oper) (is : List Nat) (a : Act) (w : World), (∀ o ∈ l, quietOp P o.op = true) → is.map (fun i => ops[i]?) = l.map some →
    wpList P ops (fun e a' w' => e = .normal ∧ w' = w ∧ X a') l a w → (∀ a', X a' → wpIy P ops Q rest a' w) → wpIy P ops Q (is.map (fun i => (i, 0)) ++ rest) a w
  | [], is, a, w, _, hi, h, hr => by
    obtain rfl : is = [] := by simpa using hi
    exact hr a h.2.2
  | o :: l, [], a, w, _, hi, h, hr => by simp at hi
  | o :: l, i :: is, a, w, hq, hi, h, hr => by
    simp only [List.map_cons, List.cons.injEq] at hi
    unfold wpList at h
    simp only [List.map_cons, List.cons_append, wpIy]
    have hqo := hq o (List.mem_cons_self ..)
    have hql : ∀ o ∈ l, quietOp P o.op = true := fun o ho => hq o (List.mem_cons_of_mem _ ho)
    split at h
    · rename_i hw
      rcases h with h | ⟨_, a', w', h⟩
      · unfold Oper.wp at h
        cases hr' : (execOp a.eval o).run P w with
        | halt y w' =>
          rw [hr'] at h
          cases y <;> simp only [Oper.upon] at h
          exact absurd h.1 (by simp)
        | ok n w1 =>
          rw [hr'] at h
          obtain ⟨v, rfl⟩ := vals_exec o hqo w n w1 hr'
          simp only [Oper.upon] at h
          rcases steady_exec (reads_eval a) o hqo w _ w1 hr' with ⟨rfl, hl⟩ | hg
          · exact ⟨o, v, hi.1, .inl ⟨hw, fun w' hb => hl w' hb⟩, iy_of_list l is _ w1 hql hi.2 h hr⟩
          · obtain ⟨a', w', hw', hK⟩ := list_ends (fun e a w hK => hK.1) l _ _ hql h
            exfalso
            rcases hw' with rfl | hg2
            · rw [hK.2.1] at hg; exact hg.irrefl
            · rw [hK.2.1] at hg2; exact (hg.trans hg2).irrefl
      · exact absurd h.1 (by simp)
    · rename_i hw
      exact ⟨o, undef, hi.1, .inr ⟨by simpa using hw, rfl⟩, iy_of_list l is _ w hql hi.2 h hr⟩

/-- the segments from class c on; for each act that is still to come: does it come behind everything? -/
def Sego (P : Program) (ops : Array Oper) (Q : Exit → Act → World → Prop) (cls : List Nat) (l : List Oper) : List Bool → Nat → Act → World → Prop
  | [], c, a, w => Seg P ops (pickC c cls l) a w (fun a' w' => w' = w ∧ Q .normal a' w)
  | false :: fl, c, a, w => Seg P ops (pickC c cls l) a w (fun a' w' => w' = w ∧ Seg P ops (pickC (c + 1) cls l) a' w (fun a'' w'' => Below w.heap.size w w'' ∧ Sego P ops Q cls l fl (c + 2) a'' w''))
  | true :: fl, c, a, w => Seg P ops (pickC c cls l) a w (fun a' w' => w' = w ∧ Seg P ops (pickC (c + 1) cls l) a' w (fun a'' w'' => Sego P ops Q cls l fl (c + 2) a'' w''))
def plan2 (cls : List Nat) : List Bool → Nat → List (Nat × Nat)
  | [], c => (idxC c cls 0).map fun i => (i, 0)
  | b :: fl, c => (idxC c cls 0).map (fun i => (i, 0)) ++ ((idxC (c + 1) cls 0).map (fun i => (i, if b then 2 else 1)) ++ plan2 cls fl (c + 2))
theorem seg_quiet2 {X : Act → Prop} {l : List Oper} {is : List Nat} {rest : List (Nat × Nat)} {a : Act} {w : World} (hq : (l.all fun o => quietOp P o.op) = true) (hi : is.map (fun i => ops[i]?) = l.map some)
    (h : Seg P ops l a w (fun a' w' => w' = w ∧ X a')) (hr : ∀ a', X a' → wpIy P ops Q rest a' w) : wpIy P ops Q (is.map (fun i => (i, 0)) ++ rest) a w :=
  iy_of_list l is a w (List.all_eq_true.1 hq) hi (h (fun e a' w' => e = .normal ∧ w' = w ∧ X a') (Lib.hid fun a' w' hc => ⟨rfl, hc⟩)) hr
theorem iy_of_sego {cls : List Nat} {l : List Oper} (hlen : cls.length = l.length) : ∀ (fl : List Bool) (c : Nat) (a : Act) (w : World), planB P cls l fl.length c = true → Sego P l.toArray Q cls l fl c a w → wpIy P l.toArray Q (plan2 cls fl c) a w
  | [], c, a, w, hB, h => by
    have := seg_quiet2 (Q := Q) (rest := []) (X := fun a' => Q .normal a' w) (by simpa [planB] using hB) (pick_idx c cls l 0 hlen (by simp)) h (fun a' h => h)
    simpa [plan2] using this
  | b :: fl, c, a, w, hB, h => by
    simp only [List.length_cons, planB, Bool.and_eq_true, beq_iff_eq] at hB
    have hp := pick_idx (ops := l.toArray) (c + 1) cls l 0 hlen (by simp)
    obtain ⟨o, ho⟩ := List.length_eq_one_iff.1 hB.1.2
    cases hx : idxC (c + 1) cls 0 with
    | nil => rw [hx, ho] at hp; simp at hp
    | cons i is =>
      rw [hx, ho] at hp
      simp only [List.map_cons, List.map_nil, List.cons.injEq, List.map_eq_nil_iff] at hp
      obtain ⟨hi, rfl⟩ := hp
      cases b with
      | false =>
        unfold plan2
        refine seg_quiet2 hB.1.1 (pick_idx c cls l 0 hlen (by simp)) h fun a' h' => ?_
        rw [hx]
        rw [ho] at h'
        simp only [List.map_cons, List.map_nil, List.cons_append, List.nil_append, Bool.false_eq_true, if_false, wpIy]
        exact wpOp_mono (fun a2 w2 h2 => ⟨h2.1, iy_of_sego hlen fl (c + 2) a2 w2 hB.2 h2.2⟩) (op_of_seg hi h')
      | true =>
        unfold plan2
        refine seg_quiet2 hB.1.1 (pick_idx c cls l 0 hlen (by simp)) h fun a' h' => ?_
        rw [hx]
        rw [ho] at h'
        simp only [List.map_cons, List.map_nil, List.cons_append, List.nil_append, if_true, wpIy]
        exact wpOp_mono (fun a2 w2 h2 => iy_of_sego hlen fl (c + 2) a2 w2 hB.2 h2) (op_of_seg hi h')
def regB2 (P : Program) (cls : List Nat) (l : List Oper) (fl : List Bool) : Bool :=
  cls.length == l.length && Region.noSelect l.toArray && planB P cls l fl.length 0 && (plan2 cls fl 0).length == l.length && iyB l.toArray (plan2 cls fl 0) (Array.replicate l.length false)
/-- THE REGION -/
theorem wp_region_sego {l : List Oper} (cls : List Nat) (fl : List Bool) {id : Nat} {a : Act} {w : World} (hm : P.follows .mixedOrders = true) (hB : regB2 P cls l fl = true)
    (hQ : ∀ c (a : Act) d v w, Q (.panic c) (a.put d v) w → Q (.panic c) a w) (h : Sego P l.toArray Q cls l fl 0 a w.drew) : (Code.region id l.toArray true).wp P Q a w := by
  simp only [regB2, Bool.and_eq_true, beq_iff_eq] at hB
  obtain ⟨⟨⟨⟨h1, h2⟩, h3⟩, h4⟩, h5⟩ := hB
  have := any_of_x _ _ _ _ (x_of_iy hQ h2 (plan2 cls fl 0) (Array.replicate l.length false) a w.drew (fun j o _ hj => by exfalso; rcases Nat.lt_or_ge j l.length with h | h <;> simp [h] at hj) h5 (iy_of_sego h1 fl 0 a w.drew h3 h))
  rw [h4] at this
  exact wp_region_any hm (by simpa using this)

/-! the moves -/
theorem sego_go {cls : List Nat} {l : List Oper} {fl : List Bool} {c : Nat} {a : Act} {w : World}
    (h : ∀ K : Exit → Act → World → Prop, Hid (∀ a', Seg P ops (pickC (c + 1) cls l) a' w (fun a'' w'' => Below w.heap.size w w'' ∧ Sego P ops Q cls l fl (c + 2) a'' w'') → K .normal a' w) → wpList P ops K (pickC c cls l) a w) :
    Sego P ops Q cls l (false :: fl) c a w := fun K hK => h K (Lib.hid fun a' hs => hK.out a' w ⟨rfl, hs⟩)
theorem sego_last {cls : List Nat} {l : List Oper} {fl : List Bool} {c : Nat} {a : Act} {w : World}
    (h : ∀ K : Exit → Act → World → Prop, Hid (∀ a', Seg P ops (pickC (c + 1) cls l) a' w (fun a'' w'' => Sego P ops Q cls l fl (c + 2) a'' w'') → K .normal a' w) → wpList P ops K (pickC c cls l) a w) :
    Sego P ops Q cls l (true :: fl) c a w := fun K hK => h K (Lib.hid fun a' hs => hK.out a' w ⟨rfl, hs⟩)
theorem sego_act {cls : List Nat} {l l1 : List Oper} {fl : List Bool} {c : Nat} {a : Act} {w : World}
    (h : ∀ K : Exit → Act → World → Prop, Hid (∀ a'' w'', Below w.heap.size w w'' → Sego P ops Q cls l fl c a'' w'' → K .normal a'' w'') → wpList P ops K l1 a w) :
    Seg P ops l1 a w (fun a'' w'' => Below w.heap.size w w'' ∧ Sego P ops Q cls l fl c a'' w'') := fun K hK => h K (Lib.hid fun a' w' hb hs => hK.out a' w' ⟨hb, hs⟩)
theorem sego_do {cls : List Nat} {l l1 : List Oper} {fl : List Bool} {c : Nat} {a : Act} {w : World}
    (h : ∀ K : Exit → Act → World → Prop, Hid (∀ a'' w'', Sego P ops Q cls l fl c a'' w'' → K .normal a'' w'') → wpList P ops K l1 a w) :
    Seg P ops l1 a w (fun a'' w'' => Sego P ops Q cls l fl c a'' w'') := fun K hK => h K (Lib.hid fun a' w' hs => hK.out a' w' hs)
theorem sego_end {cls : List Nat} {l : List Oper} {c : Nat} {a : Act} {w : World}
    (h : ∀ K : Exit → Act → World → Prop, Hid (∀ a', Q .normal a' w → K .normal a' w) → wpList P ops K (pickC c cls l) a w) :
    Sego P ops Q cls l [] c a w := fun K hK => h K (Lib.hid fun a' hs => hK.out a' w ⟨rfl, hs⟩)
end
end Go.Proofs.YtediocpdpghbfaaDoor
