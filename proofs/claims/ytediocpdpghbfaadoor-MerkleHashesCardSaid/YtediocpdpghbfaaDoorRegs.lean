/- A region that draws its order, walked in ONE order: what only looks is taken as soon as it may come up, what acts comes up alone. Over any program. -/
import Derived.Test.YtediocpdpghbfaaDoorKind4
import Derived.Lib.Hide
set_option linter.unusedSimpArgs false
set_option linter.unusedVariables false
namespace Go.Proofs.YtediocpdpghbfaaDoor
open Go Go.RowKit

section
variable {P : Program} {ops : Array Oper} {Q : Exit → Act → World → Prop} {α β : Type}

/-- what the run yields is a value -/
def Vals (P : Program) (x : Sem Next) : Prop := ∀ w n w1, x.run P w = .ok n w1 → ∃ v, n = .value v
theorem vals_pure (v : Value) : Vals P (pure (.value v)) := by
  intro w n w1 h
  rw [Sem.run_pure] at h
  injection h with h _
  exact ⟨v, h.symm⟩
theorem vals_bind {x : Sem α} {f : α → Sem Next} (h : ∀ a, Vals P (f a)) : Vals P (x >>= f) := by
  intro w n w1 e
  rw [Sem.run_bind] at e
  cases hr : x.run P w with
  | halt y w' => rw [hr] at e; simp at e
  | ok u w' => rw [hr] at e; exact h u w' n w1 e
theorem vals_panic (e : RuntimeError) : Vals P (runtimePanic e) := fun w n w1 h => absurd h (never_panic w n w1)
theorem vals_value {x : Sem Value} : Vals P (x >>= fun v => (pure (.value v) : Sem Next)) := vals_bind fun _ => vals_pure _
theorem vals_exec {ρ : Operand → Value} (o : Oper) (h : quietOp P o.op = true) : Vals P (execOp ρ o) := by
  obtain ⟨dst, op, type, pos, after, guard⟩ := o
  cases op <;> (try (simp [quietOp] at h; done)) <;> simp only [quietOp] at h <;> unfold execOp <;> dsimp only
  case move x => exact vals_pure _
  case assign x => exact vals_pure _
  case pick c a b => exact vals_bind fun _ => vals_pure _
  case nilCheck x =>
    split
    all_goals first
      | exact vals_panic _
      | (split
         all_goals first
           | exact vals_panic _
           | exact vals_pure _
           | (refine vals_bind fun p => vals_bind fun r => ?_
              split
              · exact vals_bind fun _ => vals_pure _
              · exact vals_pure _))
      | exact vals_pure _
  case call c =>
    obtain ⟨callee, args, ts⟩ := c
    cases callee <;> (try (simp at h; done))
    rename_i b
    cases b <;> (try (simp at h; done))
    · exact vals_value (x := Builtin.cap_ _ _ _)
    · exact vals_value (x := Builtin.len_ _ _ _)
  all_goals exact vals_value

/-- one order of a region: (number, does it only look?) -/
def wpIx (P : Program) (ops : Array Oper) (Q : Exit → Act → World → Prop) : List (Nat × Bool) → Act → World → Prop
  | [], a, w => Q .normal a w
  | (i, true) :: rest, a, w => ∃ o v, ops[i]? = some o ∧ YieldsIf P ops (Below w.heap.size w) o v a ∧ wpIx P ops Q rest (a.put o.dst v) w
  | (i, false) :: rest, a, w => wpOp P ops Q i (fun a' w' => Below w.heap.size w w' ∧ wpIx P ops Q rest a' w') a w

def ixB (ops : Array Oper) : List (Nat × Bool) → Array Bool → Bool
  | [], listed => (Region.ready .any ops listed).isEmpty
  | (i, true) :: rest, listed => (Region.ready .any ops listed).contains i && Region.free .any ops listed i && ixB ops rest (listed.setIfInBounds i true)
  | (i, false) :: rest, listed => (Region.ready .any ops listed == [i]) && ixB ops rest (listed.setIfInBounds i true)

theorem wpAnyH_weaken {md : Region.Mode} {S S' : World → Prop} (hS : ∀ w, S' w → S w) : ∀ (fuel : Nat) (listed : Array Bool) (a : Act) (w : World),
    wpAnyH P md ops Q S' fuel listed a w → wpAnyH P md ops Q S fuel listed a w
  | 0, _, _, _, h => h
  | fuel + 1, _, _, _, h => ⟨h.1, fun i hi => wpOp_mono (fun a' w' h' => ⟨hS _ h'.1, wpAnyH_weaken hS fuel _ a' w' h'.2⟩) (h.2 i hi)⟩

theorem any_of_ix (hQ : ∀ c (a : Act) d v w, Q (.panic c) (a.put d v) w → Q (.panic c) a w) (hs : Region.noSelect ops = true) : ∀ (s : List (Nat × Bool)) (listed : Array Bool) (a : Act) (w : World),
    ixB ops s listed = true → wpIx P ops Q s a w → wpAnyH P .any ops Q (Below w.heap.size w) s.length listed a w
  | [], listed, a, w, hB, h => wpAnyH_done (by simpa [ixB] using hB) h _
  | (i, true) :: rest, listed, a, w, hB, h => by
    obtain ⟨o, v, ho, hy, hr⟩ := h
    simp only [ixB, Bool.and_eq_true] at hB
    exact wpAnyH_take ho hs hB.1.2 hB.1.1 (fun c a w h => hQ c a _ _ w h) hy (Below.refl _ _) (any_of_ix hQ hs rest _ _ w hB.2 hr)
  | (i, false) :: rest, listed, a, w, hB, h => by
    simp only [ixB, Bool.and_eq_true, beq_iff_eq] at hB
    refine wpAnyH_all hB.1 (by simp) fun j hj => ?_
    obtain rfl : j = i := by simpa using hj
    refine wpOp_mono (fun a' w' h' => ⟨h'.1, ?_⟩) h
    exact wpAnyH_weaken (fun w'' hb => h'.1.trans (hb.mono h'.1.size)) _ _ _ _ (any_of_ix hQ hs rest _ a' w' hB.2 h'.2)

/-- every world that a list of looks can come to -/
theorem list_ends {K : Exit → Act → World → Prop} (hN : ∀ e a w, K e a w → e = .normal) : ∀ (l : List Oper) (a : Act) (w : World), (∀ o ∈ l, quietOp P o.op = true) →
    wpList P ops K l a w → ∃ a' w', (w' = w ∨ Grew w w') ∧ K .normal a' w'
  | [], a, w, _, h => ⟨a, w, .inl rfl, h⟩
  | o :: l, a, w, hq, h => by
    unfold wpList at h
    split at h
    · rcases h with h | ⟨_, a', w', h⟩
      · unfold Oper.wp at h
        cases hr : (execOp a.eval o).run P w with
        | halt y w' =>
          rw [hr] at h
          cases y <;> simp only [Oper.upon] at h
          exact absurd (hN _ _ _ h) (by simp)
        | ok n w1 =>
          rw [hr] at h
          obtain ⟨v, rfl⟩ := vals_exec o (hq o (List.mem_cons_self ..)) w n w1 hr
          simp only [Oper.upon] at h
          obtain ⟨a', w', hw', hK⟩ := list_ends hN l _ _ (fun o ho => hq o (List.mem_cons_of_mem _ ho)) h
          refine ⟨a', w', ?_, hK⟩
          rcases steady_exec (reads_eval a) o (hq o (List.mem_cons_self ..)) w _ w1 hr with ⟨rfl, _⟩ | hg
          · exact hw'
          · rcases hw' with rfl | hg2
            · exact .inr hg
            · exact .inr (hg.trans hg2)
      · exact absurd (hN _ _ _ h) (by simp)
    · exact list_ends hN l _ _ (fun o ho => hq o (List.mem_cons_of_mem _ ho)) h

theorem ix_of_list {X : Act → Prop} {rest : List (Nat × Bool)} : ∀ (l : List Oper) (is : List Nat) (a : Act) (w : World), (∀ o ∈ l, quietOp P o.op = true) → is.map (fun i => ops[i]?) = l.map some →
    wpList P ops (fun e a' w' => e = .normal ∧ w' = w ∧ X a') l a w → (∀ a', X a' → wpIx P ops Q rest a' w) → wpIx P ops Q (is.map (fun i => (i, true)) ++ rest) a w
  | [], is, a, w, _, hi, h, hr => by
    obtain rfl : is = [] := by simpa using hi
    exact hr a h.2.2
  | o :: l, [], a, w, _, hi, h, hr => by simp at hi
  | o :: l, i :: is, a, w, hq, hi, h, hr => by
    simp only [List.map_cons, List.cons.injEq] at hi
    unfold wpList at h
    simp only [List.map_cons, List.cons_append, wpIx]
    have hqo := hq o (List.mem_cons_self ..)
    have hql : ∀ o ∈ l, quietOp P o.op = true := fun o ho => hq o (List.mem_cons_of_mem _ ho)
    split at h
    · rename_i hw
      rcases h with h | ⟨_, a', w', h⟩
      · unfold Oper.wp at h
        cases hr' : (execOp a.eval o).run P w with
        | halt y w' =>
          rw [hr'] at h
          cases y <;> simp only [Oper.upon] at h
          exact absurd h.1 (by simp)
        | ok n w1 =>
          rw [hr'] at h
          obtain ⟨v, rfl⟩ := vals_exec o hqo w n w1 hr'
          simp only [Oper.upon] at h
          rcases steady_exec (reads_eval a) o hqo w _ w1 hr' with ⟨rfl, hl⟩ | hg
          · exact ⟨o, v, hi.1, .inl ⟨hw, fun w' hb => hl w' hb⟩, ix_of_list l is _ w1 hql hi.2 h hr⟩
          · obtain ⟨a', w', hw', hK⟩ := list_ends (fun e a w hK => hK.1) l _ _ hql h
            exfalso
            rcases hw' with rfl | hg2
            · rw [hK.2.1] at hg; exact hg.irrefl
            · rw [hK.2.1] at hg2; exact (hg.trans hg2).irrefl
      · exact absurd h.1 (by simp)
    · rename_i hw
      exact ⟨o, undef, hi.1, .inr ⟨by simpa using hw, rfl⟩, ix_of_list l is _ w hql hi.2 h hr⟩

theorem wp_both {o : Oper} {a : Act} {w : World} {K K' : Act → World → Prop} {Q' : Exit → Act → World → Prop} (h : ∀ a w, K a w → K' a w) (hq : ∀ e a w, ¬ Q' e a w)
    (hh : o.wp P a w K Q') : o.wp P a w K' Q := by
  unfold Oper.wp at *
  generalize (execOp a.eval o).run P w = r at *
  cases r with
  | ok n w' =>
    cases n <;> simp only [Oper.upon] at hh ⊢ <;>
      first
        | exact h _ _ hh
        | (refine Calls.mono hh fun e w'' he => ?_
           cases e with
           | returned u => exact h _ _ he
           | panicked c => exact absurd he (hq _ _ _)
           | outgrown => obtain ⟨a', w3, h3⟩ := he; exact absurd h3 (hq _ _ _))
        | exact Rows.mono hh (fun _ _ he => h _ _ he)
  | halt x w' => cases x <;> simp only [Oper.upon] at hh ⊢ <;> exact absurd hh (hq _ _ _)

def Seg (P : Program) (ops : Array Oper) (l : List Oper) (a : Act) (w : World) (C : Act → World → Prop) : Prop :=
  ∀ K : Exit → Act → World → Prop, Hid (∀ a' w', C a' w' → K .normal a' w') → wpList P ops K l a w

theorem op_of_seg {C : Act → World → Prop} {i : Nat} {o : Oper} {a : Act} {w : World} (hi : ops[i]? = some o) (h : Seg P ops [o] a w C) : wpOp P ops Q i C a w := by
  have h1 := h (fun e a w => e = .normal ∧ C a w) (Lib.hid fun a' w' hc => ⟨rfl, hc⟩)
  unfold wpList at h1
  unfold wpOp
  simp only [hi]
  split at h1
  · rename_i hw
    simp only [hw, if_true]
    rcases h1 with h1 | ⟨_, a', w', h1⟩
    · left
      unfold Oper.wp at *
      generalize (execOp a.eval o).run P w = r at *
      cases r with
      | ok n w' =>
        cases n <;> simp only [Oper.upon, wpList] at h1 ⊢ <;>
          first
            | exact h1.2
            | (refine Calls.mono h1 fun e w'' he => ?_
               cases e with
               | returned u => exact he.2
               | panicked c => exact absurd he.1 (by simp)
               | outgrown => obtain ⟨a', w3, h3⟩ := he; exact absurd h3.1 (by simp))
            | exact Rows.mono h1 (fun _ _ he => he.2)
      | halt x w' => cases x <;> simp only [Oper.upon] at h1 ⊢ <;> first | exact h1 | exact absurd h1.1 (by simp)
    · exact absurd h1.1 (by simp)
  · rename_i hw
    simp only [hw, Bool.false_eq_true, if_false]
    exact h1.2

def pickC (c : Nat) : List Nat → List Oper → List Oper
  | k :: ks, o :: os => if k = c then o :: pickC c ks os else pickC c ks os
  | _, _ => []
def idxC (c : Nat) : List Nat → Nat → List Nat
  | k :: ks, i => if k = c then i :: idxC c ks (i + 1) else idxC c ks (i + 1)
  | [], _ => []
theorem pick_idx (c : Nat) : ∀ (cls : List Nat) (l : List Oper) (k : Nat), cls.length = l.length → (∀ j, l[j]? = ops[k + j]?) → (idxC c cls k).map (fun i => ops[i]?) = (pickC c cls l).map some
  | [], [], _, _, _ => rfl
  | [], _ :: _, _, h, _ => by simp at h
  | _ :: _, [], _, h, _ => by simp at h
  | x :: xs, o :: l, k, h, hl => by
    have h0 : ops[k]? = some o := by simpa using (hl 0).symm
    have ih := pick_idx c xs l (k + 1) (by simpa using h) (fun j => by have := hl (j + 1); simpa [Nat.add_assoc, Nat.add_comm 1 j] using this)
    simp only [idxC, pickC]
    split
    · simp only [List.map_cons, h0, ih]
    · exact ih

/-- the segments of a region from class c on: n acts are still to come -/
def Segs (P : Program) (ops : Array Oper) (Q : Exit → Act → World → Prop) (cls : List Nat) (l : List Oper) : Nat → Nat → Act → World → Prop
  | 0, c, a, w => Seg P ops (pickC c cls l) a w (fun a' w' => w' = w ∧ Q .normal a' w)
  | n + 1, c, a, w => Seg P ops (pickC c cls l) a w (fun a' w' => w' = w ∧ Seg P ops (pickC (c + 1) cls l) a' w (fun a'' w'' => Below w.heap.size w w'' ∧ Segs P ops Q cls l n (c + 2) a'' w''))

def planB (P : Program) (cls : List Nat) (l : List Oper) : Nat → Nat → Bool
  | 0, c => (pickC c cls l).all fun o => quietOp P o.op
  | n + 1, c => ((pickC c cls l).all fun o => quietOp P o.op) && (pickC (c + 1) cls l).length == 1 && planB P cls l n (c + 2)
def plan (cls : List Nat) : Nat → Nat → List (Nat × Bool)
  | 0, c => (idxC c cls 0).map fun i => (i, true)
  | n + 1, c => (idxC c cls 0).map (fun i => (i, true)) ++ ((idxC (c + 1) cls 0).map (fun i => (i, false)) ++ plan cls n (c + 2))
theorem seg_quiet {X : Act → Prop} {l : List Oper} {is : List Nat} {rest : List (Nat × Bool)} {a : Act} {w : World} (hq : (l.all fun o => quietOp P o.op) = true) (hi : is.map (fun i => ops[i]?) = l.map some)
    (h : Seg P ops l a w (fun a' w' => w' = w ∧ X a')) (hr : ∀ a', X a' → wpIx P ops Q rest a' w) : wpIx P ops Q (is.map (fun i => (i, true)) ++ rest) a w :=
  ix_of_list l is a w (List.all_eq_true.1 hq) hi (h (fun e a' w' => e = .normal ∧ w' = w ∧ X a') (Lib.hid fun a' w' hc => ⟨rfl, hc⟩)) hr
theorem ix_of_segs {cls : List Nat} {l : List Oper} (hlen : cls.length = l.length) : ∀ (n c : Nat) (a : Act) (w : World), planB P cls l n c = true → Segs P l.toArray Q cls l n c a w → wpIx P l.toArray Q (plan cls n c) a w
  | 0, c, a, w, hB, h => by
    have := seg_quiet (Q := Q) (rest := []) (X := fun a' => Q .normal a' w) (by simpa [planB] using hB) (pick_idx c cls l 0 hlen (by simp)) h (fun a' h => h)
    simpa [plan] using this
  | n + 1, c, a, w, hB, h => by
    simp only [planB, Bool.and_eq_true, beq_iff_eq] at hB
    refine seg_quiet hB.1.1 (pick_idx c cls l 0 hlen (by simp)) h fun a' h' => ?_
    have hp := pick_idx (ops := l.toArray) (c + 1) cls l 0 hlen (by simp)
    obtain ⟨o, ho⟩ := List.length_eq_one_iff.1 hB.1.2
    rw [ho] at hp h'
    cases hx : idxC (c + 1) cls 0 with
    | nil => rw [hx] at hp; simp at hp
    | cons i is =>
      rw [hx] at hp
      simp only [List.map_cons, List.map_nil, List.cons.injEq, List.map_eq_nil_iff] at hp
      obtain ⟨hi, rfl⟩ := hp
      simp only [List.map_cons, List.map_nil, List.cons_append, List.nil_append, wpIx]
      exact wpOp_mono (fun a2 w2 h2 => ⟨h2.1, ix_of_segs hlen n (c + 2) a2 w2 hB.2 h2.2⟩) (op_of_seg hi h')

def regB (P : Program) (cls : List Nat) (l : List Oper) (n : Nat) : Bool :=
  cls.length == l.length && Region.noSelect l.toArray && planB P cls l n 0 && (plan cls n 0).length == l.length && ixB l.toArray (plan cls n 0) (Array.replicate l.length false)
/-- THE REGION -/
theorem wp_region_segs {l : List Oper} (cls : List Nat) (n : Nat) {id : Nat} {a : Act} {w : World} (hm : P.follows .mixedOrders = true) (hB : regB P cls l n = true)
    (hQ : ∀ c (a : Act) d v w, Q (.panic c) (a.put d v) w → Q (.panic c) a w) (h : Segs P l.toArray Q cls l n 0 a w.drew) : (Code.region id l.toArray true).wp P Q a w := by
  simp only [regB, Bool.and_eq_true, beq_iff_eq] at hB
  obtain ⟨⟨⟨⟨h1, h2⟩, h3⟩, h4⟩, h5⟩ := hB
  have := any_of_ix hQ h2 (plan cls n 0) (Array.replicate l.length false) a w.drew h5 (ix_of_segs h1 n 0 a w.drew h3 h)
  rw [h4] at this
  exact wp_region_held hm (by simpa using this)
/-! the moves of the walk -/
theorem segs_go {cls : List Nat} {l : List Oper} {n c : Nat} {a : Act} {w : World}
    (h : ∀ K : Exit → Act → World → Prop, Hid (∀ a', Seg P ops (pickC (c + 1) cls l) a' w (fun a'' w'' => Below w.heap.size w w'' ∧ Segs P ops Q cls l n (c + 2) a'' w'') → K .normal a' w) → wpList P ops K (pickC c cls l) a w) :
    Segs P ops Q cls l (n + 1) c a w := fun K hK => h K (Lib.hid fun a' hs => hK.out a' w ⟨rfl, hs⟩)
theorem seg_act {cls : List Nat} {l l1 : List Oper} {n c : Nat} {a : Act} {w : World}
    (h : ∀ K : Exit → Act → World → Prop, Hid (∀ a'' w'', Below w.heap.size w w'' → Segs P ops Q cls l n c a'' w'' → K .normal a'' w'') → wpList P ops K l1 a w) :
    Seg P ops l1 a w (fun a'' w'' => Below w.heap.size w w'' ∧ Segs P ops Q cls l n c a'' w'') := fun K hK => h K (Lib.hid fun a' w' hb hs => hK.out a' w' ⟨hb, hs⟩)
theorem segs_end {cls : List Nat} {l : List Oper} {c : Nat} {a : Act} {w : World}
    (h : ∀ K : Exit → Act → World → Prop, Hid (∀ a', Q .normal a' w → K .normal a' w) → wpList P ops K (pickC c cls l) a w) :
    Segs P ops Q cls l 0 c a w := fun K hK => h K (Lib.hid fun a' hs => hK.out a' w ⟨rfl, hs⟩)
end
end Go.Proofs.YtediocpdpghbfaaDoor
