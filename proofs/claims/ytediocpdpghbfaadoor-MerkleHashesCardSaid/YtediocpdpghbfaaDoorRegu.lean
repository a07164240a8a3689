/- A region that draws its order, walked by a tree of orders: where several acts may come up at once (a variable made beside a call), each way is walked; what only looks is taken as soon as it may come up. Over any program. -/
import Derived.Test.YtediocpdpghbfaaDoorRegt
set_option linter.unusedSimpArgs false
set_option linter.unusedVariables false
namespace Go.Proofs.YtediocpdpghbfaaDoor
open Go Go.RowKit

/-- a tree of orders; a mask says of each operation whether it is meant -/
inductive Pl where
  | stop : Pl
  | look (m : List Bool) (p : Pl) : Pl
  | act (m : List Bool) (p : Pl) : Pl
  | last (m : List Bool) (p : Pl) : Pl
  | fork (m : List Bool) (p q : Pl) : Pl
def idxM : List Bool → Nat → List Nat
  | b :: ks, i => if b then i :: idxM ks (i + 1) else idxM ks (i + 1)
  | [], _ => []
def pickM : List Bool → List Oper → List Oper
  | true :: ks, o :: os => o :: pickM ks os
  | false :: ks, _ :: os => pickM ks os
  | _, _ => []
def Pl.heads : Pl → List Nat
  | act m _ => idxM m 0
  | last m _ => idxM m 0
  | fork m _ q => idxM m 0 ++ q.heads
  | _ => []
def Pl.depth : Pl → Nat
  | stop => 0
  | look m p => (idxM m 0).length + p.depth
  | act _ p => p.depth + 1
  | last _ p => p.depth + 1
  | fork _ p _ => p.depth + 1
def lookB (ops : Array Oper) : List Nat → Array Bool → Bool
  | [], _ => true
  | i :: is, L => (Region.ready .any ops L).contains i && Region.free .any ops L i && lookB ops is (L.setIfInBounds i true)
def setAll : List Nat → Array Bool → Array Bool
  | [], L => L
  | i :: is, L => setAll is (L.setIfInBounds i true)
def Pl.chk (P : Program) (l : List Oper) : Pl → Bool → Array Bool → Bool
  | stop, b, L => !b && (Region.ready .any l.toArray L).isEmpty
  | look m p, b, L => !b && (m.length == l.length) && ((pickM m l).all fun o => quietOp P o.op) && lookB l.toArray (idxM m 0) L && p.chk P l false (setAll (idxM m 0) L)
  | act m p, b, L => (b || Region.ready .any l.toArray L == idxM m 0) && (m.length == l.length) && ((idxM m 0).length == 1) && p.chk P l false (setAll (idxM m 0) L)
  | last m p, b, L => !b && (Region.ready .any l.toArray L == idxM m 0) && (m.length == l.length) && ((idxM m 0).length == 1) && barrier l.toArray ((idxM m 0).headD 0) L && p.chk P l false (setAll (idxM m 0) L)
  | fork m p q, b, L => (b || Region.ready .any l.toArray L == idxM m 0 ++ q.heads) && (m.length == l.length) && ((idxM m 0).length == 1) && (q.depth == p.depth + 1) && p.chk P l false (setAll (idxM m 0) L) && q.chk P l true L

section
variable {P : Program} {ops : Array Oper} {Q : Exit → Act → World → Prop} {l : List Oper}
theorem pick_idxM : ∀ (m : List Bool) (l : List Oper) (k : Nat), m.length = l.length → (∀ j, l[j]? = ops[k + j]?) → (idxM m k).map (fun i => ops[i]?) = (pickM m l).map some
  | [], [], _, _, _ => rfl
  | [], _ :: _, _, h, _ => by simp at h
  | _ :: _, [], _, h, _ => by simp at h
  | x :: xs, o :: l, k, h, hl => by
    have h0 : ops[k]? = some o := by simpa using (hl 0).symm
    have ih := pick_idxM xs l (k + 1) (by simpa using h) (fun j => by have := hl (j + 1); simpa [Nat.add_assoc, Nat.add_comm 1 j] using this)
    cases x with
    | false => simpa [idxM, pickM] using ih
    | true => simp only [idxM, pickM, if_true, List.map_cons, h0, ih]

/-- a chain of looks, and what holds behind it -/
def Looks (P : Program) (ops : Array Oper) (w : World) (C : Act → Prop) : List Nat → Act → Prop
  | [], a => C a
  | i :: is, a => ∃ o v, ops[i]? = some o ∧ YieldsIf P ops (Below w.heap.size w) o v a ∧ Looks P ops w C is (a.put o.dst v)
theorem looks_of_list {X : Act → Prop} : ∀ (l : List Oper) (is : List Nat) (a : Act) (w : World), (∀ o ∈ l, quietOp P o.op = true) → is.map (fun i => ops[i]?) = l.map some →
    wpList P ops (fun e a' w' => e = .normal ∧ w' = w ∧ X a') l a w → Looks P ops w X is a
  | [], is, a, w, _, hi, h => by
    obtain rfl : is = [] := by simpa using hi
    exact h.2.2
  | o :: l, [], a, w, _, hi, h => by simp at hi
  | o :: l, i :: is, a, w, hq, hi, h => by
    simp only [List.map_cons, List.cons.injEq] at hi
    unfold wpList at h
    unfold Looks
    have hqo := hq o (List.mem_cons_self ..)
    have hql : ∀ o ∈ l, quietOp P o.op = true := fun o ho => hq o (List.mem_cons_of_mem _ ho)
    split at h
    · rename_i hw
      rcases h with h | ⟨_, a', w', h⟩
      · unfold Oper.wp at h
        cases hr' : (execOp a.eval o).run P w with
        | halt y w' =>
          rw [hr'] at h
          cases y <;> simp only [Oper.upon] at h
          exact absurd h.1 (by simp)
        | ok n w1 =>
          rw [hr'] at h
          obtain ⟨v, rfl⟩ := vals_exec o hqo w n w1 hr'
          simp only [Oper.upon] at h
          rcases steady_exec (reads_eval a) o hqo w _ w1 hr' with ⟨rfl, hl⟩ | hg
          · exact ⟨o, v, hi.1, .inl ⟨hw, fun w' hb => hl w' hb⟩, looks_of_list l is _ w1 hql hi.2 h⟩
          · obtain ⟨a', w', hw', hK⟩ := list_ends (fun e a w hK => hK.1) l _ _ hql h
            exfalso
            rcases hw' with rfl | hg2
            · rw [hK.2.1] at hg; exact hg.irrefl
            · rw [hK.2.1] at hg2; exact (hg.trans hg2).irrefl
      · exact absurd h.1 (by simp)
    · rename_i hw
      exact ⟨o, undef, hi.1, .inr ⟨by simpa using hw, rfl⟩, looks_of_list l is _ w hql hi.2 h⟩
theorem x_of_looks (hQ : ∀ c (a : Act) d v w, Q (.panic c) (a.put d v) w → Q (.panic c) a w) (hs : Region.noSelect ops = true) {fuel : Nat} {w : World} : ∀ (is : List Nat) (L : Array Bool) (a : Act), Closed ops L → lookB ops is L = true →
    Looks P ops w (fun a' => Closed ops (setAll is L) → wpX P ops Q (Below w.heap.size w) fuel (setAll is L) a' w) is a → wpX P ops Q (Below w.heap.size w) (is.length + fuel) L a w
  | [], L, a, hc, _, h => by simpa [setAll] using h hc
  | i :: is, L, a, hc, hB, ⟨o, v, ho, hy, hr⟩ => by
    simp only [lookB, Bool.and_eq_true] at hB
    have hin : i ∈ Region.ready .any ops L := by simpa using hB.1.1
    rw [show (i :: is).length + fuel = (is.length + fuel) + 1 by simp; omega]
    exact wpX_first ho (Region.noSelect_spec hs) (fun c a w h => hQ c a _ _ w h) _ L a w hc (Region.free_spec ho hB.1.2) hin hy (Below.refl _ _) (x_of_looks hQ hs is _ _ (closed_set hc hin) hB.2 hr)

/-- the walk of a tree -/
def St (P : Program) (ops : Array Oper) (Q : Exit → Act → World → Prop) (l : List Oper) : Pl → Act → World → Prop
  | .stop, a, w => Q .normal a w
  | .look m p, a, w => Seg P ops (pickM m l) a w (fun a' w' => w' = w ∧ St P ops Q l p a' w)
  | .act m p, a, w => Seg P ops (pickM m l) a w (fun a' w' => Below w.heap.size w w' ∧ St P ops Q l p a' w')
  | .last m p, a, w => Seg P ops (pickM m l) a w (fun a' w' => St P ops Q l p a' w')
  | .fork m p q, a, w => Seg P ops (pickM m l) a w (fun a' w' => Below w.heap.size w w' ∧ St P ops Q l p a' w') ∧ St P ops Q l q a w

theorem one_idx {m : List Bool} (hl : m.length = l.length) (h1 : (idxM m 0).length = 1) : ∃ i o, idxM m 0 = [i] ∧ pickM m l = [o] ∧ l.toArray[i]? = some o := by
  have hp := pick_idxM (ops := l.toArray) m l 0 hl (by simp)
  obtain ⟨i, hi⟩ := List.length_eq_one_iff.1 h1
  rw [hi] at hp
  simp only [List.map_cons, List.map_nil] at hp
  cases hk : pickM m l with
  | nil => rw [hk] at hp; simp at hp
  | cons o t =>
    rw [hk] at hp
    simp only [List.map_cons, List.cons.injEq] at hp
    obtain rfl : t = [] := by simpa using hp.2.symm
    exact ⟨i, o, hi, rfl, hp.1⟩

theorem x_of_st (hQ : ∀ c (a : Act) d v w, Q (.panic c) (a.put d v) w → Q (.panic c) a w) (hs : Region.noSelect l.toArray = true) : ∀ (p : Pl),
    (∀ (L : Array Bool) (a : Act) (w : World), Closed l.toArray L → p.chk P l false L = true → St P l.toArray Q l p a w → wpX P l.toArray Q (Below w.heap.size w) p.depth L a w) ∧
    (∀ (L : Array Bool) (a : Act) (w : World), Closed l.toArray L → p.chk P l true L = true → (∀ j ∈ p.heads, j ∈ Region.ready .any l.toArray L) → St P l.toArray Q l p a w →
      ∀ j ∈ p.heads, ∃ k, p.depth = k + 1 ∧ wpOp P l.toArray Q j (fun a' w' => Below w.heap.size w w' ∧ wpX P l.toArray Q (Below w'.heap.size w') k (L.setIfInBounds j true) a' w') a w)
  | .stop => ⟨fun L a w _ hB h => ⟨by simpa [Pl.chk] using hB, h⟩, fun L a w _ hB => by simp [Pl.chk] at hB⟩
  | .look m p => by
    refine ⟨fun L a w hc hB h => ?_, fun L a w _ hB => by simp [Pl.chk] at hB⟩
    simp only [Pl.chk, Bool.and_eq_true, beq_iff_eq, Bool.not_false, true_and] at hB
    obtain ⟨⟨⟨hl, hq⟩, hk⟩, hp⟩ := hB
    refine x_of_looks hQ hs (idxM m 0) L a hc hk ?_
    refine looks_of_list (pickM m l) (idxM m 0) a w (List.all_eq_true.1 hq) (pick_idxM m l 0 hl (by simp)) ?_
    exact h _ (Lib.hid fun a' w' h' => ⟨rfl, h'.1, fun hc' => (x_of_st hQ hs p).1 _ a' w hc' hp h'.2⟩)
  | .act m p => by
    have key : ∀ (L : Array Bool) (a : Act) (w : World), Closed l.toArray L → m.length = l.length → (idxM m 0).length = 1 → p.chk P l false (setAll (idxM m 0) L) = true → (∀ j ∈ idxM m 0, j ∈ Region.ready .any l.toArray L) → St P l.toArray Q l (.act m p) a w →
        ∀ j ∈ idxM m 0, wpOp P l.toArray Q j (fun a' w' => Below w.heap.size w w' ∧ wpX P l.toArray Q (Below w'.heap.size w') p.depth (L.setIfInBounds j true) a' w') a w := by
      intro L a w hc hl h1 hp hr h j hj
      obtain ⟨i, o, hi, hk, ho⟩ := one_idx hl h1
      rw [hi] at hj hp hr
      obtain rfl : j = i := by simpa using hj
      unfold St at h
      rw [hk] at h
      exact wpOp_mono (fun a' w' h' => ⟨h'.1, (x_of_st hQ hs p).1 _ a' w' (closed_set hc (hr j (by simp))) hp h'.2⟩) (op_of_seg ho h)
    refine ⟨fun L a w hc hB h => ?_, fun L a w hc hB hr h j hj => ?_⟩
    · simp only [Pl.chk, Bool.false_or, Bool.and_eq_true, beq_iff_eq] at hB
      obtain ⟨⟨⟨hr, hl⟩, h1⟩, hp⟩ := hB
      have hk := key L a w hc hl h1 hp (fun j hj => by rw [hr]; exact hj) h
      refine ⟨fun h0 => (by rw [hr] at h0; rw [h0] at h1; simp at h1), fun j hj => ?_⟩
      refine wpOp_mono (fun a' w' h' => ?_) (hk j (by rw [← hr]; exact hj))
      split
      · exact any_of_x _ _ _ _ h'.2
      · exact ⟨h'.1, wpX_weaken (fun w'' hb => h'.1.trans (hb.mono h'.1.size)) _ _ _ _ h'.2⟩
    · simp only [Pl.chk, Bool.true_or, Bool.and_eq_true, beq_iff_eq, true_and] at hB
      obtain ⟨⟨hl, h1⟩, hp⟩ := hB
      exact ⟨p.depth, rfl, key L a w hc hl h1 hp hr h j hj⟩
  | .last m p => by
    refine ⟨fun L a w hc hB h => ?_, fun L a w _ hB => by simp [Pl.chk] at hB⟩
    simp only [Pl.chk, Bool.not_false, Bool.and_eq_true, beq_iff_eq, true_and] at hB
    obtain ⟨⟨⟨⟨hr, hl⟩, h1⟩, hb⟩, hp⟩ := hB
    obtain ⟨i, o, hi, hk, ho⟩ := one_idx hl h1
    rw [hi] at hr hp hb
    unfold St at h
    rw [hk] at h
    refine ⟨fun h0 => (by rw [hr] at h0; cases h0), fun j hj => ?_⟩
    rw [hr] at hj
    obtain rfl : j = i := by simpa using hj
    refine wpOp_mono (fun a' w' h' => ?_) (op_of_seg ho h)
    rw [if_pos (by simpa using hb)]
    exact any_of_x _ _ _ _ ((x_of_st hQ hs p).1 _ a' w' (closed_set hc (by rw [hr]; simp)) hp h')
  | .fork m p q => by
    have key : ∀ (L : Array Bool) (a : Act) (w : World), Closed l.toArray L → m.length = l.length → (idxM m 0).length = 1 → q.depth = p.depth + 1 → p.chk P l false (setAll (idxM m 0) L) = true → q.chk P l true L = true →
        (∀ j ∈ idxM m 0 ++ q.heads, j ∈ Region.ready .any l.toArray L) → St P l.toArray Q l (.fork m p q) a w →
        ∀ j ∈ idxM m 0 ++ q.heads, wpOp P l.toArray Q j (fun a' w' => Below w.heap.size w w' ∧ wpX P l.toArray Q (Below w'.heap.size w') p.depth (L.setIfInBounds j true) a' w') a w := by
      intro L a w hc hl h1 hd hp hq hr h j hj
      unfold St at h
      rcases List.mem_append.1 hj with hj1 | hj1
      · obtain ⟨i, o, hi, hk, ho⟩ := one_idx hl h1
        rw [hi] at hj1 hp
        obtain rfl : j = i := by simpa using hj1
        rw [hk] at h
        exact wpOp_mono (fun a' w' h' => ⟨h'.1, (x_of_st hQ hs p).1 _ a' w' (closed_set hc (hr j hj)) hp h'.2⟩) (op_of_seg ho h.1)
      · obtain ⟨k, hk, hw⟩ := (x_of_st hQ hs q).2 L a w hc hq (fun j hj => hr j (List.mem_append.2 (.inr hj))) h.2 j hj1
        obtain rfl : k = p.depth := by omega
        exact hw
    refine ⟨fun L a w hc hB h => ?_, fun L a w hc hB hr h j hj => ?_⟩
    · simp only [Pl.chk, Bool.false_or, Bool.and_eq_true, beq_iff_eq] at hB
      obtain ⟨⟨⟨⟨⟨hr, hl⟩, h1⟩, hd⟩, hp⟩, hq⟩ := hB
      have hk := key L a w hc hl h1 hd hp hq (fun j hj => by rw [hr]; exact hj) h
      refine ⟨fun h0 => (by rw [hr] at h0; rw [(List.append_eq_nil_iff.1 h0).1] at h1; simp at h1), fun j hj => ?_⟩
      refine wpOp_mono (fun a' w' h' => ?_) (hk j (by rw [← hr]; exact hj))
      split
      · exact any_of_x _ _ _ _ h'.2
      · exact ⟨h'.1, wpX_weaken (fun w'' hb => h'.1.trans (hb.mono h'.1.size)) _ _ _ _ h'.2⟩
    · simp only [Pl.chk, Bool.true_or, Bool.and_eq_true, beq_iff_eq, true_and] at hB
      obtain ⟨⟨⟨⟨hl, h1⟩, hd⟩, hp⟩, hq⟩ := hB
      exact ⟨p.depth, rfl, key L a w hc hl h1 hd hp hq hr h j hj⟩

def treeB (P : Program) (p : Pl) (l : List Oper) : Bool := Region.noSelect l.toArray && (p.depth == l.length) && p.chk P l false (Array.replicate l.length false)
/-- THE REGION -/
theorem wp_region_tree (p : Pl) {id : Nat} {a : Act} {w : World} (hm : P.follows .mixedOrders = true) (hB : treeB P p l = true)
    (hQ : ∀ c (a : Act) d v w, Q (.panic c) (a.put d v) w → Q (.panic c) a w) (h : St P l.toArray Q l p a w.drew) : (Code.region id l.toArray true).wp P Q a w := by
  simp only [treeB, Bool.and_eq_true, beq_iff_eq] at hB
  obtain ⟨⟨h2, h4⟩, h5⟩ := hB
  have := any_of_x _ _ _ _ ((x_of_st hQ h2 p).1 (Array.replicate l.length false) a w.drew (fun j o _ hj => by exfalso; rcases Nat.lt_or_ge j l.length with h | h <;> simp [h] at hj) h5 h)
  rw [h4] at this
  exact wp_region_any hm (by simpa using this)
/-! the moves -/
theorem st_look {m : List Bool} {p : Pl} {a : Act} {w : World} (h : ∀ K : Exit → Act → World → Prop, Hid (∀ a', St P ops Q l p a' w → K .normal a' w) → wpList P ops K (pickM m l) a w) : St P ops Q l (.look m p) a w :=
  fun K hK => h K (Lib.hid fun a' hs => hK.out a' w ⟨rfl, hs⟩)
theorem st_act {m : List Bool} {p : Pl} {a : Act} {w : World} (h : ∀ K : Exit → Act → World → Prop, Hid (∀ a' w', Below w.heap.size w w' → St P ops Q l p a' w' → K .normal a' w') → wpList P ops K (pickM m l) a w) : St P ops Q l (.act m p) a w :=
  fun K hK => h K (Lib.hid fun a' w' hb hs => hK.out a' w' ⟨hb, hs⟩)
theorem st_last {m : List Bool} {p : Pl} {a : Act} {w : World} (h : ∀ K : Exit → Act → World → Prop, Hid (∀ a' w', St P ops Q l p a' w' → K .normal a' w') → wpList P ops K (pickM m l) a w) : St P ops Q l (.last m p) a w :=
  fun K hK => h K (Lib.hid fun a' w' hs => hK.out a' w' hs)
theorem st_fork {m : List Bool} {p q : Pl} {a : Act} {w : World} (h : ∀ K : Exit → Act → World → Prop, Hid (∀ a' w', Below w.heap.size w w' → St P ops Q l p a' w' → K .normal a' w') → wpList P ops K (pickM m l) a w)
    (hq : St P ops Q l q a w) : St P ops Q l (.fork m p q) a w := ⟨fun K hK => h K (Lib.hid fun a' w' hb hs => hK.out a' w' ⟨hb, hs⟩), hq⟩
end
end Go.Proofs.YtediocpdpghbfaaDoor
