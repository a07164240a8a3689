/- A region that draws its order, walked by a tree of orders, II: what looks at no world at all (a move, a part of a tuple) binds nothing that comes behind it; an act need only leave alone what lay below the last look's heap. Over any program. -/
import Derived.Test.YtediocpdpghbfaaDoorRegP
set_option linter.unusedSimpArgs false
set_option linter.unusedVariables false
namespace Go.Proofs.YtediocpdpghbfaaDoor
open Go Go.RowKit

def stillOp : Op → Bool
  | .move _ => true
  | .assign _ => true
  | .extract _ _ => true
  | .pick _ _ _ => true
  | _ => false
def Still (P : Program) {α : Type} (x : Sem α) : Prop := ∀ (w : World) (v : α) (w1 : World), x.run P w = .ok v w1 → w1 = w ∧ ∀ w', x.run P w' = .ok v w'
section
variable {P : Program} {α β : Type}
theorem still_pure (a : α) : Still P (pure a : Sem α) := by
  intro w v w1 h
  rw [Sem.run_pure] at h
  injection h with h1 h2
  subst h1; subst h2
  exact ⟨rfl, fun w' => by rw [Sem.run_pure]⟩
theorem still_halt (h : Halt) : Still P (.halt h : Sem α) := by
  intro w v w1 e
  simp [Sem.run] at e
theorem still_bind {x : Sem α} {f : α → Sem β} (hx : Still P x) (hf : ∀ a, Still P (f a)) : Still P (x >>= f) := by
  intro w v w2 e
  rw [Sem.run_bind] at e
  cases hr : x.run P w with
  | halt h w' => rw [hr] at e; simp at e
  | ok u w1 =>
    rw [hr] at e
    simp only [Result.andThen] at e
    obtain ⟨rfl, hl⟩ := hx w u w1 hr
    obtain ⟨rfl, hl2⟩ := hf u w1 v w2 e
    exact ⟨rfl, fun w' => by rw [Sem.run_bind, hl w']; simp only [Result.andThen]; exact hl2 w'⟩
theorem still_stuck (s : String) : Still P (stuck s : Sem α) := still_halt _
theorem still_asBool (v : Value) : Still P (asBool v) := by
  unfold asBool
  split
  · exact still_pure _
  · exact still_stuck _
theorem still_extract (x : Value) (i : Nat) : Still P (Instr.extract x i) := by
  unfold Instr.extract
  split
  · split
    · exact still_pure _
    · exact still_stuck _
  · exact still_stuck _
theorem still_exec {ρ : Operand → Value} (o : Oper) (h : stillOp o.op = true) : Still P (execOp ρ o) := by
  obtain ⟨dst, op, type, pos, after, guard⟩ := o
  cases op <;> (try (simp [stillOp] at h; done)) <;> unfold execOp <;> dsimp only
  case move x => exact still_pure _
  case assign x => exact still_pure _
  case pick c a b => exact still_bind (still_asBool _) fun _ => by split <;> exact still_pure _
  case extract => exact still_bind (still_extract _ _) fun _ => still_pure _
end
inductive Pv where
  | stop : Pv
  | look (m : List Bool) (p : Pv) : Pv
  | still (m : List Bool) (p : Pv) : Pv
  | act (m : List Bool) (p : Pv) : Pv
  | last (m : List Bool) (p : Pv) : Pv
  | fork (m : List Bool) (p q : Pv) : Pv
def Pv.heads : Pv → List Nat
  | act m _ => idxM m 0
  | last m _ => idxM m 0
  | fork m _ q => idxM m 0 ++ q.heads
  | _ => []
def Pv.depth : Pv → Nat
  | stop => 0
  | look m p => (idxM m 0).length + p.depth
  | still m p => (idxM m 0).length + p.depth
  | act _ p => p.depth + 1
  | last _ p => p.depth + 1
  | fork _ p _ => p.depth + 1
def Pv.chk (P : Program) (l : List Oper) : Pv → Bool → Array Bool → Bool
  | stop, b, L => !b && (Region.ready .any l.toArray L).isEmpty
  | look m p, b, L => !b && (m.length == l.length) && ((pickM m l).all fun o => quietOp P o.op) && lookB l.toArray (idxM m 0) L && p.chk P l false (setAll (idxM m 0) L)
  | still m p, b, L => !b && (m.length == l.length) && ((pickM m l).all fun o => stillOp o.op) && lookB l.toArray (idxM m 0) L && p.chk P l false (setAll (idxM m 0) L)
  | act m p, b, L => (b || Region.ready .any l.toArray L == idxM m 0) && (m.length == l.length) && ((idxM m 0).length == 1) && p.chk P l false (setAll (idxM m 0) L)
  | last m p, b, L => !b && (Region.ready .any l.toArray L == idxM m 0) && (m.length == l.length) && ((idxM m 0).length == 1) && barrier l.toArray ((idxM m 0).headD 0) L && p.chk P l false (setAll (idxM m 0) L)
  | fork m p q, b, L => (b || Region.ready .any l.toArray L == idxM m 0 ++ q.heads) && (m.length == l.length) && ((idxM m 0).length == 1) && (q.depth == p.depth + 1) && p.chk P l false (setAll (idxM m 0) L) && q.chk P l true L
/-- the world of the last look, if any: what lies in it below its heap's size must stay -/
def Sof : Option World → World → Prop
  | none, _ => True
  | some w0, w' => Below w0.heap.size w0 w'
theorem Sof.step {b : Option World} {w w' : World} (h : Sof b w) (k : Below w.heap.size w w') : Sof b w' := by
  cases b with
  | none => trivial
  | some w0 => exact Below.trans (show Below w0.heap.size w0 w from h) (k.mono (show Below w0.heap.size w0 w from h).size)

section
variable {P : Program} {ops : Array Oper} {Q : Exit → Act → World → Prop} {l : List Oper}
/-- a chain of operations that look at no world -/
def Stills (P : Program) (ops : Array Oper) (S : World → Prop) (C : Act → Prop) : List Nat → Act → Prop
  | [], a => C a
  | i :: is, a => ∃ o v, ops[i]? = some o ∧ YieldsIf P ops S o v a ∧ Stills P ops S C is (a.put o.dst v)
theorem still_ends {K : Exit → Act → World → Prop} {C : Act → Prop} {w : World} (hK : ∀ e a w', K e a w' → e = .normal ∧ w' = w ∧ C a) : ∀ (l : List Oper) (a : Act) (w0 : World), (∀ o ∈ l, stillOp o.op = true) → wpList P ops K l a w0 → w0 = w
  | [], a, w0, _, h => (hK _ _ _ h).2.1
  | o :: l, a, w0, hq, h => by
    unfold wpList at h
    have hqo := hq o (List.mem_cons_self ..)
    have hql : ∀ o ∈ l, stillOp o.op = true := fun o ho => hq o (List.mem_cons_of_mem _ ho)
    split at h
    · rcases h with h | ⟨_, a', w', h⟩
      · unfold Oper.wp at h
        cases hr' : (execOp a.eval o).run P w0 with
        | halt y w' =>
          rw [hr'] at h
          cases y <;> simp only [Oper.upon] at h
          exact absurd (hK _ _ _ h).1 (by simp)
        | ok n w1 =>
          rw [hr'] at h
          obtain ⟨rfl, _⟩ := still_exec o hqo w0 n w1 hr'
          have hqq : quietOp P o.op = true := by
            cases ho : o.op <;> rw [ho] at hqo <;> simp [stillOp] at hqo <;> rfl
          obtain ⟨v, rfl⟩ := vals_exec o hqq w1 n w1 hr'
          simp only [Oper.upon] at h
          exact still_ends hK l _ w1 hql h
      · exact absurd (hK _ _ _ h).1 (by simp)
    · exact still_ends hK l _ w0 hql h
theorem stills_of_list {X : Act → Prop} {S : World → Prop} : ∀ (l : List Oper) (is : List Nat) (a : Act) (w : World), (∀ o ∈ l, stillOp o.op = true) → is.map (fun i => ops[i]?) = l.map some →
    wpList P ops (fun e a' w' => e = .normal ∧ w' = w ∧ X a') l a w → Stills P ops S X is a
  | [], is, a, w, _, hi, h => by
    obtain rfl : is = [] := by simpa using hi
    exact h.2.2
  | o :: l, [], a, w, _, hi, h => by simp at hi
  | o :: l, i :: is, a, w, hq, hi, h => by
    simp only [List.map_cons, List.cons.injEq] at hi
    unfold wpList at h
    unfold Stills
    have hqo := hq o (List.mem_cons_self ..)
    have hql : ∀ o ∈ l, stillOp o.op = true := fun o ho => hq o (List.mem_cons_of_mem _ ho)
    have hqq : quietOp P o.op = true := by
      cases ho : o.op <;> rw [ho] at hqo <;> simp [stillOp] at hqo <;> rfl
    split at h
    · rename_i hw
      rcases h with h | ⟨_, a', w', h⟩
      · unfold Oper.wp at h
        cases hr' : (execOp a.eval o).run P w with
        | halt y w' =>
          rw [hr'] at h
          cases y <;> simp only [Oper.upon] at h
          exact absurd h.1 (by simp)
        | ok n w1 =>
          rw [hr'] at h
          obtain ⟨v, rfl⟩ := vals_exec o hqq w n w1 hr'
          obtain ⟨rfl, hl⟩ := still_exec o hqo w _ w1 hr'
          simp only [Oper.upon] at h
          exact ⟨o, v, hi.1, .inl ⟨hw, fun w' _ => hl w'⟩, stills_of_list l is _ w1 hql hi.2 h⟩
      · exact absurd h.1 (by simp)
    · rename_i hw
      exact ⟨o, undef, hi.1, .inr ⟨by simpa using hw, rfl⟩, stills_of_list l is _ w hql hi.2 h⟩
theorem x_of_stills (hQ : ∀ c (a : Act) d v w, Q (.panic c) (a.put d v) w → Q (.panic c) a w) (hs : Region.noSelect ops = true) {S : World → Prop} {fuel : Nat} {w : World} (hSw : S w) : ∀ (is : List Nat) (L : Array Bool) (a : Act), Closed ops L → lookB ops is L = true →
    Stills P ops S (fun a' => Closed ops (setAll is L) → wpX P ops Q S fuel (setAll is L) a' w) is a → wpX P ops Q S (is.length + fuel) L a w
  | [], L, a, hc, _, h => by simpa [setAll] using h hc
  | i :: is, L, a, hc, hB, ⟨o, v, ho, hy, hr⟩ => by
    simp only [lookB, Bool.and_eq_true] at hB
    have hin : i ∈ Region.ready .any ops L := by simpa using hB.1.1
    rw [show (i :: is).length + fuel = (is.length + fuel) + 1 by simp; omega]
    exact wpX_first ho (Region.noSelect_spec hs) (fun c a w h => hQ c a _ _ w h) _ L a w hc (Region.free_spec ho hB.1.2) hin hy hSw (x_of_stills hQ hs hSw is _ _ (closed_set hc hin) hB.2 hr)

/-- the walk of a tree -/
def Sv (P : Program) (ops : Array Oper) (Q : Exit → Act → World → Prop) (l : List Oper) : Pv → Option World → Act → World → Prop
  | .stop, _, a, w => Q .normal a w
  | .look m p, _, a, w => Seg P ops (pickM m l) a w (fun a' w' => w' = w ∧ Sv P ops Q l p (some w) a' w)
  | .still m p, b, a, w => Seg P ops (pickM m l) a w (fun a' w' => w' = w ∧ Sv P ops Q l p b a' w)
  | .act m p, b, a, w => Seg P ops (pickM m l) a w (fun a' w' => Sof b w' ∧ Sv P ops Q l p b a' w')
  | .last m p, _, a, w => Seg P ops (pickM m l) a w (fun a' w' => Sv P ops Q l p none a' w')
  | .fork m p q, b, a, w => Seg P ops (pickM m l) a w (fun a' w' => Sof b w' ∧ Sv P ops Q l p b a' w') ∧ Sv P ops Q l q b a w

theorem x_of_sv (hQ : ∀ c (a : Act) d v w, Q (.panic c) (a.put d v) w → Q (.panic c) a w) (hs : Region.noSelect l.toArray = true) : ∀ (p : Pv),
    (∀ (b : Option World) (L : Array Bool) (a : Act) (w : World), Closed l.toArray L → p.chk P l false L = true → Sof b w → Sv P l.toArray Q l p b a w → wpX P l.toArray Q (Sof b) p.depth L a w) ∧
    (∀ (b : Option World) (L : Array Bool) (a : Act) (w : World), Closed l.toArray L → p.chk P l true L = true → (∀ j ∈ p.heads, j ∈ Region.ready .any l.toArray L) → Sof b w → Sv P l.toArray Q l p b a w →
      ∀ j ∈ p.heads, ∃ k, p.depth = k + 1 ∧ wpOp P l.toArray Q j (fun a' w' => Sof b w' ∧ wpX P l.toArray Q (Sof b) k (L.setIfInBounds j true) a' w') a w)
  | .stop => ⟨fun b L a w _ hB _ h => ⟨by simpa [Pv.chk] using hB, h⟩, fun b L a w _ hB => by simp [Pv.chk] at hB⟩
  | .look m p => by
    refine ⟨fun b L a w hc hB hS h => ?_, fun b L a w _ hB => by simp [Pv.chk] at hB⟩
    simp only [Pv.chk, Bool.and_eq_true, beq_iff_eq, Bool.not_false, true_and] at hB
    obtain ⟨⟨⟨hl, hq⟩, hk⟩, hp⟩ := hB
    have hx : wpX P l.toArray Q (Below w.heap.size w) ((idxM m 0).length + p.depth) L a w := by
      refine x_of_looks hQ hs (idxM m 0) L a hc hk ?_
      refine looks_of_list (pickM m l) (idxM m 0) a w (List.all_eq_true.1 hq) (pick_idxM m l 0 hl (by simp)) ?_
      exact h _ (Lib.hid fun a' w' h' => ⟨rfl, h'.1, fun hc' => (x_of_sv hQ hs p).1 (some w) _ a' w hc' hp (Below.refl _ _) h'.2⟩)
    exact wpX_weaken (fun w' hb => hS.step hb) _ _ _ _ hx
  | .still m p => by
    refine ⟨fun b L a w hc hB hS h => ?_, fun b L a w _ hB => by simp [Pv.chk] at hB⟩
    simp only [Pv.chk, Bool.and_eq_true, beq_iff_eq, Bool.not_false, true_and] at hB
    obtain ⟨⟨⟨hl, hq⟩, hk⟩, hp⟩ := hB
    refine x_of_stills hQ hs hS (idxM m 0) L a hc hk ?_
    refine stills_of_list (pickM m l) (idxM m 0) a w (List.all_eq_true.1 hq) (pick_idxM m l 0 hl (by simp)) ?_
    exact h _ (Lib.hid fun a' w' h' => ⟨rfl, h'.1, fun hc' => (x_of_sv hQ hs p).1 b _ a' w hc' hp hS h'.2⟩)
  | .act m p => by
    have key : ∀ (b : Option World) (L : Array Bool) (a : Act) (w : World), Closed l.toArray L → m.length = l.length → (idxM m 0).length = 1 → p.chk P l false (setAll (idxM m 0) L) = true → (∀ j ∈ idxM m 0, j ∈ Region.ready .any l.toArray L) → Sv P l.toArray Q l (.act m p) b a w →
        ∀ j ∈ idxM m 0, wpOp P l.toArray Q j (fun a' w' => Sof b w' ∧ wpX P l.toArray Q (Sof b) p.depth (L.setIfInBounds j true) a' w') a w := by
      intro b L a w hc hl h1 hp hr h j hj
      obtain ⟨i, o, hi, hk, ho⟩ := one_idx hl h1
      rw [hi] at hj hp hr
      obtain rfl : j = i := by simpa using hj
      unfold Sv at h
      rw [hk] at h
      exact wpOp_mono (fun a' w' h' => ⟨h'.1, (x_of_sv hQ hs p).1 b _ a' w' (closed_set hc (hr j (by simp))) hp h'.1 h'.2⟩) (op_of_seg ho h)
    refine ⟨fun b L a w hc hB hS h => ?_, fun b L a w hc hB hr hS h j hj => ?_⟩
    · simp only [Pv.chk, Bool.false_or, Bool.and_eq_true, beq_iff_eq] at hB
      obtain ⟨⟨⟨hr, hl⟩, h1⟩, hp⟩ := hB
      have hk := key b L a w hc hl h1 hp (fun j hj => by rw [hr]; exact hj) h
      refine ⟨fun h0 => (by rw [hr] at h0; rw [h0] at h1; simp at h1), fun j hj => ?_⟩
      refine wpOp_mono (fun a' w' h' => ?_) (hk j (by rw [← hr]; exact hj))
      split
      · exact any_of_x _ _ _ _ h'.2
      · exact h'
    · simp only [Pv.chk, Bool.true_or, Bool.and_eq_true, beq_iff_eq, true_and] at hB
      obtain ⟨⟨hl, h1⟩, hp⟩ := hB
      exact ⟨p.depth, rfl, key b L a w hc hl h1 hp hr h j hj⟩
  | .last m p => by
    refine ⟨fun b L a w hc hB hS h => ?_, fun b L a w _ hB => by simp [Pv.chk] at hB⟩
    simp only [Pv.chk, Bool.not_false, Bool.and_eq_true, beq_iff_eq, true_and] at hB
    obtain ⟨⟨⟨⟨hr, hl⟩, h1⟩, hb⟩, hp⟩ := hB
    obtain ⟨i, o, hi, hk, ho⟩ := one_idx hl h1
    rw [hi] at hr hp hb
    unfold Sv at h
    rw [hk] at h
    refine ⟨fun h0 => (by rw [hr] at h0; cases h0), fun j hj => ?_⟩
    rw [hr] at hj
    obtain rfl : j = i := by simpa using hj
    refine wpOp_mono (fun a' w' h' => ?_) (op_of_seg ho h)
    rw [if_pos (by simpa using hb)]
    exact any_of_x _ _ _ _ ((x_of_sv hQ hs p).1 none _ a' w' (closed_set hc (by rw [hr]; simp)) hp trivial h')
  | .fork m p q => by
    have key : ∀ (b : Option World) (L : Array Bool) (a : Act) (w : World), Closed l.toArray L → m.length = l.length → (idxM m 0).length = 1 → q.depth = p.depth + 1 → p.chk P l false (setAll (idxM m 0) L) = true → q.chk P l true L = true →
        (∀ j ∈ idxM m 0 ++ q.heads, j ∈ Region.ready .any l.toArray L) → Sof b w → Sv P l.toArray Q l (.fork m p q) b a w →
        ∀ j ∈ idxM m 0 ++ q.heads, wpOp P l.toArray Q j (fun a' w' => Sof b w' ∧ wpX P l.toArray Q (Sof b) p.depth (L.setIfInBounds j true) a' w') a w := by
      intro b L a w hc hl h1 hd hp hq hr hS h j hj
      unfold Sv at h
      rcases List.mem_append.1 hj with hj1 | hj1
      · obtain ⟨i, o, hi, hk, ho⟩ := one_idx hl h1
        rw [hi] at hj1 hp
        obtain rfl : j = i := by simpa using hj1
        rw [hk] at h
        exact wpOp_mono (fun a' w' h' => ⟨h'.1, (x_of_sv hQ hs p).1 b _ a' w' (closed_set hc (hr j hj)) hp h'.1 h'.2⟩) (op_of_seg ho h.1)
      · obtain ⟨k, hk, hw⟩ := (x_of_sv hQ hs q).2 b L a w hc hq (fun j hj => hr j (List.mem_append.2 (.inr hj))) hS h.2 j hj1
        obtain rfl : k = p.depth := by omega
        exact hw
    refine ⟨fun b L a w hc hB hS h => ?_, fun b L a w hc hB hr hS h j hj => ?_⟩
    · simp only [Pv.chk, Bool.false_or, Bool.and_eq_true, beq_iff_eq] at hB
      obtain ⟨⟨⟨⟨⟨hr, hl⟩, h1⟩, hd⟩, hp⟩, hq⟩ := hB
      have hk := key b L a w hc hl h1 hd hp hq (fun j hj => by rw [hr]; exact hj) hS h
      refine ⟨fun h0 => (by rw [hr] at h0; rw [(List.append_eq_nil_iff.1 h0).1] at h1; simp at h1), fun j hj => ?_⟩
      refine wpOp_mono (fun a' w' h' => ?_) (hk j (by rw [← hr]; exact hj))
      split
      · exact any_of_x _ _ _ _ h'.2
      · exact h'
    · simp only [Pv.chk, Bool.true_or, Bool.and_eq_true, beq_iff_eq, true_and] at hB
      obtain ⟨⟨⟨⟨hl, h1⟩, hd⟩, hp⟩, hq⟩ := hB
      exact ⟨p.depth, rfl, key b L a w hc hl h1 hd hp hq hr hS h j hj⟩

def pvB (P : Program) (p : Pv) (l : List Oper) : Bool := Region.noSelect l.toArray && (p.depth == l.length) && p.chk P l false (Array.replicate l.length false)
/-- THE REGION -/
theorem wp_region_pv (p : Pv) {id : Nat} {a : Act} {w : World} (hm : P.follows .mixedOrders = true) (hB : pvB P p l = true)
    (hQ : ∀ c (a : Act) d v w, Q (.panic c) (a.put d v) w → Q (.panic c) a w) (h : Sv P l.toArray Q l p none a w.drew) : (Code.region id l.toArray true).wp P Q a w := by
  simp only [pvB, Bool.and_eq_true, beq_iff_eq] at hB
  obtain ⟨⟨h2, h4⟩, h5⟩ := hB
  have := any_of_x _ _ _ _ ((x_of_sv hQ h2 p).1 none (Array.replicate l.length false) a w.drew (fun j o _ hj => by exfalso; rcases Nat.lt_or_ge j l.length with h | h <;> simp [h] at hj) h5 trivial h)
  rw [h4] at this
  exact wp_region_any hm (by simpa using this)
/-! the moves -/
theorem sv_look {m : List Bool} {p : Pv} {b : Option World} {a : Act} {w : World} (h : ∀ K : Exit → Act → World → Prop, Hid (∀ a', Sv P ops Q l p (some w) a' w → K .normal a' w) → wpList P ops K (pickM m l) a w) : Sv P ops Q l (.look m p) b a w :=
  fun K hK => h K (Lib.hid fun a' hs => hK.out a' w ⟨rfl, hs⟩)
theorem sv_still {m : List Bool} {p : Pv} {b : Option World} {a : Act} {w : World} (h : ∀ K : Exit → Act → World → Prop, Hid (∀ a', Sv P ops Q l p b a' w → K .normal a' w) → wpList P ops K (pickM m l) a w) : Sv P ops Q l (.still m p) b a w :=
  fun K hK => h K (Lib.hid fun a' hs => hK.out a' w ⟨rfl, hs⟩)
theorem sv_act {m : List Bool} {p : Pv} {b : Option World} {a : Act} {w : World} (h : ∀ K : Exit → Act → World → Prop, Hid (∀ a' w', Sof b w' → Sv P ops Q l p b a' w' → K .normal a' w') → wpList P ops K (pickM m l) a w) : Sv P ops Q l (.act m p) b a w :=
  fun K hK => h K (Lib.hid fun a' w' hb hs => hK.out a' w' ⟨hb, hs⟩)
theorem sv_last {m : List Bool} {p : Pv} {b : Option World} {a : Act} {w : World} (h : ∀ K : Exit → Act → World → Prop, Hid (∀ a' w', Sv P ops Q l p none a' w' → K .normal a' w') → wpList P ops K (pickM m l) a w) : Sv P ops Q l (.last m p) b a w :=
  fun K hK => h K (Lib.hid fun a' w' hs => hK.out a' w' hs)
theorem sv_fork {m : List Bool} {p q : Pv} {b : Option World} {a : Act} {w : World} (h : ∀ K : Exit → Act → World → Prop, Hid (∀ a' w', Sof b w' → Sv P ops Q l p b a' w' → K .normal a' w') → wpList P ops K (pickM m l) a w)
    (hq : Sv P ops Q l q b a w) : Sv P ops Q l (.fork m p q) b a w := ⟨fun K hK => h K (Lib.hid fun a' w' hb hs => hK.out a' w' ⟨hb, hs⟩), hq⟩
end
end Go.Proofs.YtediocpdpghbfaaDoor
