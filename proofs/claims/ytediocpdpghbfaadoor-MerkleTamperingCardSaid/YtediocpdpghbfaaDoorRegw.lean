/- A region that draws its order, walked by a tree of orders, III: with an invariant of the world. What is seen (a load, a comparison) is the same in every world that keeps the invariant; every act keeps it. Over any program. -/
import Derived.Test.YtediocpdpghbfaaDoorRegv
set_option linter.unusedSimpArgs false
set_option linter.unusedVariables false
namespace Go.Proofs.YtediocpdpghbfaaDoor
open Go Go.RowKit

inductive Pw where
  | stop : Pw
  | still (m : List Bool) (p : Pw) : Pw
  | see (m : List Bool) (p : Pw) : Pw
  | act (m : List Bool) (p : Pw) : Pw
  | fork (m : List Bool) (p q : Pw) : Pw
def Pw.heads : Pw → List Nat
  | act m _ => idxM m 0
  | fork m _ q => idxM m 0 ++ q.heads
  | _ => []
def Pw.depth : Pw → Nat
  | stop => 0
  | still m p => (idxM m 0).length + p.depth
  | see _ p => p.depth + 1
  | act _ p => p.depth + 1
  | fork _ p _ => p.depth + 1
def Pw.chk (P : Program) (l : List Oper) : Pw → Bool → Array Bool → Bool
  | stop, b, L => !b && (Region.ready .any l.toArray L).isEmpty
  | still m p, b, L => !b && (m.length == l.length) && ((pickM m l).all fun o => stillOp o.op) && lookB l.toArray (idxM m 0) L && p.chk P l false (setAll (idxM m 0) L)
  | see m p, b, L => !b && (m.length == l.length) && ((idxM m 0).length == 1) && lookB l.toArray (idxM m 0) L && p.chk P l false (setAll (idxM m 0) L)
  | act m p, b, L => (b || Region.ready .any l.toArray L == idxM m 0) && (m.length == l.length) && ((idxM m 0).length == 1) && p.chk P l false (setAll (idxM m 0) L)
  | fork m p q, b, L => (b || Region.ready .any l.toArray L == idxM m 0 ++ q.heads) && (m.length == l.length) && ((idxM m 0).length == 1) && (q.depth == p.depth + 1) && p.chk P l false (setAll (idxM m 0) L) && q.chk P l true L
section
variable {P : Program} {ops : Array Oper} {Q : Exit → Act → World → Prop} {l : List Oper} {S : World → Prop}
def Sw (P : Program) (ops : Array Oper) (Q : Exit → Act → World → Prop) (l : List Oper) (S : World → Prop) : Pw → Act → World → Prop
  | .stop, a, w => Q .normal a w
  | .still m p, a, w => Seg P ops (pickM m l) a w (fun a' w' => w' = w ∧ Sw P ops Q l S p a' w)
  | .see m p, a, w => ∀ o, pickM m l = [o] → ∃ v, YieldsIf P ops S o v a ∧ Sw P ops Q l S p (a.put o.dst v) w
  | .act m p, a, w => Seg P ops (pickM m l) a w (fun a' w' => S w' ∧ Sw P ops Q l S p a' w')
  | .fork m p q, a, w => Seg P ops (pickM m l) a w (fun a' w' => S w' ∧ Sw P ops Q l S p a' w') ∧ Sw P ops Q l S q a w
theorem x_of_sw (hQ : ∀ c (a : Act) d v w, Q (.panic c) (a.put d v) w → Q (.panic c) a w) (hs : Region.noSelect l.toArray = true) : ∀ (p : Pw),
    (∀ (L : Array Bool) (a : Act) (w : World), Closed l.toArray L → p.chk P l false L = true → S w → Sw P l.toArray Q l S p a w → wpX P l.toArray Q S p.depth L a w) ∧
    (∀ (L : Array Bool) (a : Act) (w : World), Closed l.toArray L → p.chk P l true L = true → (∀ j ∈ p.heads, j ∈ Region.ready .any l.toArray L) → S w → Sw P l.toArray Q l S p a w →
      ∀ j ∈ p.heads, ∃ k, p.depth = k + 1 ∧ wpOp P l.toArray Q j (fun a' w' => S w' ∧ wpX P l.toArray Q S k (L.setIfInBounds j true) a' w') a w)
  | .stop => ⟨fun L a w _ hB _ h => ⟨by simpa [Pw.chk] using hB, h⟩, fun L a w _ hB => by simp [Pw.chk] at hB⟩
  | .still m p => by
    refine ⟨fun L a w hc hB hS h => ?_, fun L a w _ hB => by simp [Pw.chk] at hB⟩
    simp only [Pw.chk, Bool.and_eq_true, beq_iff_eq, Bool.not_false, true_and] at hB
    obtain ⟨⟨⟨hl, hq⟩, hk⟩, hp⟩ := hB
    refine x_of_stills hQ hs hS (idxM m 0) L a hc hk ?_
    refine stills_of_list (pickM m l) (idxM m 0) a w (List.all_eq_true.1 hq) (pick_idxM m l 0 hl (by simp)) ?_
    exact h _ (Lib.hid fun a' w' h' => ⟨rfl, h'.1, fun hc' => (x_of_sw hQ hs p).1 _ a' w hc' hp hS h'.2⟩)
  | .see m p => by
    refine ⟨fun L a w hc hB hS h => ?_, fun L a w _ hB => by simp [Pw.chk] at hB⟩
    simp only [Pw.chk, Bool.and_eq_true, beq_iff_eq, Bool.not_false, true_and] at hB
    obtain ⟨⟨⟨hl, h1⟩, hk⟩, hp⟩ := hB
    obtain ⟨i, o, hi, hpk, ho⟩ := one_idx hl h1
    obtain ⟨v, hy, hn⟩ := h o hpk
    rw [hi] at hk hp
    have hx : wpX P l.toArray Q S ([i].length + p.depth) L a w :=
      x_of_stills hQ hs hS [i] L a hc hk ⟨o, v, ho, hy, fun hc' => (x_of_sw hQ hs p).1 _ _ w hc' hp hS hn⟩
    rw [show ([i] : List Nat).length + p.depth = p.depth + 1 by simp; omega] at hx
    exact hx
  | .act m p => by
    have key : ∀ (L : Array Bool) (a : Act) (w : World), Closed l.toArray L → m.length = l.length → (idxM m 0).length = 1 → p.chk P l false (setAll (idxM m 0) L) = true → (∀ j ∈ idxM m 0, j ∈ Region.ready .any l.toArray L) → Sw P l.toArray Q l S (.act m p) a w →
        ∀ j ∈ idxM m 0, wpOp P l.toArray Q j (fun a' w' => S w' ∧ wpX P l.toArray Q S p.depth (L.setIfInBounds j true) a' w') a w := by
      intro L a w hc hl h1 hp hr h j hj
      obtain ⟨i, o, hi, hk, ho⟩ := one_idx hl h1
      rw [hi] at hj hp hr
      obtain rfl : j = i := by simpa using hj
      unfold Sw at h
      rw [hk] at h
      exact wpOp_mono (fun a' w' h' => ⟨h'.1, (x_of_sw hQ hs p).1 _ a' w' (closed_set hc (hr j (by simp))) hp h'.1 h'.2⟩) (op_of_seg ho h)
    refine ⟨fun L a w hc hB hS h => ?_, fun L a w hc hB hr hS h j hj => ?_⟩
    · simp only [Pw.chk, Bool.false_or, Bool.and_eq_true, beq_iff_eq] at hB
      obtain ⟨⟨⟨hr, hl⟩, h1⟩, hp⟩ := hB
      have hk := key L a w hc hl h1 hp (fun j hj => by rw [hr]; exact hj) h
      refine ⟨fun h0 => (by rw [hr] at h0; rw [h0] at h1; simp at h1), fun j hj => ?_⟩
      refine wpOp_mono (fun a' w' h' => ?_) (hk j (by rw [← hr]; exact hj))
      split
      · exact any_of_x _ _ _ _ h'.2
      · exact h'
    · simp only [Pw.chk, Bool.true_or, Bool.and_eq_true, beq_iff_eq, true_and] at hB
      obtain ⟨⟨hl, h1⟩, hp⟩ := hB
      exact ⟨p.depth, rfl, key L a w hc hl h1 hp hr h j hj⟩
  | .fork m p q => by
    have key : ∀ (L : Array Bool) (a : Act) (w : World), Closed l.toArray L → m.length = l.length → (idxM m 0).length = 1 → q.depth = p.depth + 1 → p.chk P l false (setAll (idxM m 0) L) = true → q.chk P l true L = true →
        (∀ j ∈ idxM m 0 ++ q.heads, j ∈ Region.ready .any l.toArray L) → S w → Sw P l.toArray Q l S (.fork m p q) a w →
        ∀ j ∈ idxM m 0 ++ q.heads, wpOp P l.toArray Q j (fun a' w' => S w' ∧ wpX P l.toArray Q S p.depth (L.setIfInBounds j true) a' w') a w := by
      intro L a w hc hl h1 hd hp hq hr hS h j hj
      unfold Sw at h
      rcases List.mem_append.1 hj with hj1 | hj1
      · obtain ⟨i, o, hi, hk, ho⟩ := one_idx hl h1
        rw [hi] at hj1 hp
        obtain rfl : j = i := by simpa using hj1
        rw [hk] at h
        exact wpOp_mono (fun a' w' h' => ⟨h'.1, (x_of_sw hQ hs p).1 _ a' w' (closed_set hc (hr j hj)) hp h'.1 h'.2⟩) (op_of_seg ho h.1)
      · obtain ⟨k, hk, hw⟩ := (x_of_sw hQ hs q).2 L a w hc hq (fun j hj => hr j (List.mem_append.2 (.inr hj))) hS h.2 j hj1
        obtain rfl : k = p.depth := by omega
        exact hw
    refine ⟨fun L a w hc hB hS h => ?_, fun L a w hc hB hr hS h j hj => ?_⟩
    · simp only [Pw.chk, Bool.false_or, Bool.and_eq_true, beq_iff_eq] at hB
      obtain ⟨⟨⟨⟨⟨hr, hl⟩, h1⟩, hd⟩, hp⟩, hq⟩ := hB
      have hk := key L a w hc hl h1 hd hp hq (fun j hj => by rw [hr]; exact hj) hS h
      refine ⟨fun h0 => (by rw [hr] at h0; rw [(List.append_eq_nil_iff.1 h0).1] at h1; simp at h1), fun j hj => ?_⟩
      refine wpOp_mono (fun a' w' h' => ?_) (hk j (by rw [← hr]; exact hj))
      split
      · exact any_of_x _ _ _ _ h'.2
      · exact h'
    · simp only [Pw.chk, Bool.true_or, Bool.and_eq_true, beq_iff_eq, true_and] at hB
      obtain ⟨⟨⟨⟨hl, h1⟩, hd⟩, hp⟩, hq⟩ := hB
      exact ⟨p.depth, rfl, key L a w hc hl h1 hd hp hq hr hS h j hj⟩
def pwB (P : Program) (p : Pw) (l : List Oper) : Bool := Region.noSelect l.toArray && (p.depth == l.length) && p.chk P l false (Array.replicate l.length false)
/-- THE REGION -/
theorem wp_region_inv (S : World → Prop) (p : Pw) {id : Nat} {a : Act} {w : World} (hm : P.follows .mixedOrders = true) (hB : pwB P p l = true)
    (hQ : ∀ c (a : Act) d v w, Q (.panic c) (a.put d v) w → Q (.panic c) a w) (hS : S w.drew) (h : Sw P l.toArray Q l S p a w.drew) : (Code.region id l.toArray true).wp P Q a w := by
  simp only [pwB, Bool.and_eq_true, beq_iff_eq] at hB
  obtain ⟨⟨h2, h4⟩, h5⟩ := hB
  have := any_of_x _ _ _ _ ((x_of_sw (S := S) hQ h2 p).1 (Array.replicate l.length false) a w.drew (fun j o _ hj => by exfalso; rcases Nat.lt_or_ge j l.length with h | h <;> simp [h] at hj) h5 hS h)
  rw [h4] at this
  exact wp_region_any hm (by simpa using this)
/-! the moves -/
theorem sw_still {m : List Bool} {p : Pw} {a : Act} {w : World} (h : ∀ K : Exit → Act → World → Prop, Hid (∀ a', Sw P ops Q l S p a' w → K .normal a' w) → wpList P ops K (pickM m l) a w) : Sw P ops Q l S (.still m p) a w :=
  fun K hK => h K (Lib.hid fun a' hs => hK.out a' w ⟨rfl, hs⟩)
theorem sw_see {m : List Bool} {p : Pw} {a : Act} {w : World} {o : Oper} {v : Value} (hp : pickM m l = [o]) (hw : Region.wanted o (yielded ops a.tmps) = true) (h : ∀ w', S w' → (execOp a.eval o).run P w' = .ok (.value v) w')
    (hn : Sw P ops Q l S p (a.put o.dst v) w) : Sw P ops Q l S (.see m p) a w := fun o' ho => by
  rw [hp] at ho
  obtain rfl : o = o' := by simpa using ho
  exact ⟨v, .inl ⟨hw, h⟩, hn⟩
theorem sw_skip {m : List Bool} {p : Pw} {a : Act} {w : World} {o : Oper} (hp : pickM m l = [o]) (hw : Region.wanted o (yielded ops a.tmps) = false)
    (hn : Sw P ops Q l S p (a.put o.dst undef) w) : Sw P ops Q l S (.see m p) a w := fun o' ho => by
  rw [hp] at ho
  obtain rfl : o = o' := by simpa using ho
  exact ⟨undef, .inr ⟨hw, rfl⟩, hn⟩
theorem sw_act {m : List Bool} {p : Pw} {a : Act} {w : World} (h : ∀ K : Exit → Act → World → Prop, Hid (∀ a' w', S w' → Sw P ops Q l S p a' w' → K .normal a' w') → wpList P ops K (pickM m l) a w) : Sw P ops Q l S (.act m p) a w :=
  fun K hK => h K (Lib.hid fun a' w' hb hs => hK.out a' w' ⟨hb, hs⟩)
theorem sw_fork {m : List Bool} {p q : Pw} {a : Act} {w : World} (h : ∀ K : Exit → Act → World → Prop, Hid (∀ a' w', S w' → Sw P ops Q l S p a' w' → K .normal a' w') → wpList P ops K (pickM m l) a w)
    (hq : Sw P ops Q l S q a w) : Sw P ops Q l S (.fork m p q) a w := ⟨fun K hK => h K (Lib.hid fun a' w' hb hs => hK.out a' w' ⟨hb, hs⟩), hq⟩
end
end Go.Proofs.YtediocpdpghbfaaDoor
