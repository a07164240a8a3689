/- Operations that only look: what they yield in a world they yield in every later world (one that is as that world was below its heap's size). Over any program. -/
import Derived.WalkKit
import Derived.OrdersHeld
set_option linter.unusedSimpArgs false
set_option linter.unusedVariables false
namespace Go.Proofs.YtediocpdpghbfaaDoor
open Go Go.RowKit

/-- the run left a greater heap, or asked the tape -/
def Grew (w w1 : World) : Prop := (w.heap.size < w1.heap.size ∨ w.drawn < w1.drawn) ∧ w.heap.size ≤ w1.heap.size ∧ w.drawn ≤ w1.drawn
theorem Grew.trans {a b c : World} (h : Grew a b) (k : Grew b c) : Grew a c := by
  unfold Grew at *; omega
theorem Grew.irrefl {a : World} (h : Grew a a) : False := by
  unfold Grew at h; omega

def Steady (P : Program) {α : Type} (x : Sem α) : Prop := ∀ (w : World) (v : α) (w1 : World), x.run P w = .ok v w1 →
  (w1 = w ∧ ∀ w', Below w.heap.size w w' → x.run P w' = .ok v w') ∨ Grew w w1

section
variable {P : Program} {α β : Type}

theorem steady_pure (a : α) : Steady P (pure a : Sem α) := by
  intro w v w1 h
  rw [Sem.run_pure] at h
  injection h with h1 h2
  subst h1; subst h2
  exact .inl ⟨rfl, fun w' _ => by rw [Sem.run_pure]⟩
theorem steady_halt (h : Halt) : Steady P (.halt h : Sem α) := by
  intro w v w1 e
  simp [Sem.run] at e
theorem steady_bind {x : Sem α} {f : α → Sem β} (hx : Steady P x) (hf : ∀ a, Steady P (f a)) : Steady P (x >>= f) := by
  intro w v w2 e
  rw [Sem.run_bind] at e
  cases hr : x.run P w with
  | halt h w' => rw [hr] at e; simp at e
  | ok u w1 =>
    rw [hr] at e
    simp only [Result.andThen] at e
    rcases hx w u w1 hr with ⟨rfl, hl⟩ | hg
    · rcases hf u w1 v w2 e with ⟨rfl, hl2⟩ | hg2
      · exact .inl ⟨rfl, fun w' hb => by rw [Sem.run_bind, hl w' hb]; simp only [Result.andThen]; exact hl2 w' hb⟩
      · exact .inr hg2
    · rcases hf u w1 v w2 e with ⟨rfl, _⟩ | hg2
      · exact .inr hg
      · exact .inr (hg.trans hg2)
theorem steady_map {x : Sem α} (f : α → β) (hx : Steady P x) : Steady P (f <$> x) := steady_bind hx fun _ => steady_pure _
theorem steady_ite {c : Prop} [Decidable c] {x y : Sem α} (hx : Steady P x) (hy : Steady P y) : Steady P (if c then x else y) := by split <;> assumption
theorem steady_stuck (s : String) : Steady P (stuck s : Sem α) := steady_halt _
theorem steady_unsupported (u : Unsupported) : Steady P (unsupported u : Sem α) := steady_halt _
theorem steady_program : Steady P program := by
  intro w v w1 h
  simp only [program, Sem.run] at h
  injection h with h1 h2
  subst h1; subst h2
  exact .inl ⟨rfl, fun w' _ => rfl⟩
theorem steady_mark (m : Mark) : Steady P (mark m) := by
  intro w v w1 h
  simp only [mark, Sem.run] at h
  injection h with h1 h2
  subst h1; subst h2
  exact .inl ⟨rfl, fun w' _ => rfl⟩
theorem steady_new (o : Obj) : Steady P (newObj o) := by
  intro w v w1 h
  simp only [newObj, Sem.run] at h
  injection h with h1 h2
  subst h1; subst h2
  refine .inr ?_
  simp only [Grew, Array.size_push]; omega
theorem steady_choose (q : Question) : Steady P (choose q) := by
  intro w v w1 h
  simp only [Go.choose, Sem.run] at h
  split at h
  · injection h with h1 h2
    subst h1; subst h2
    refine .inl ⟨rfl, fun w' _ => ?_⟩
    simp only [Go.choose, Sem.run]
    rw [if_pos ‹_›]
  · injection h with h1 h2
    subst h1; subst h2
    refine .inr ?_
    simp only [Grew]; omega
theorem later_at {w w' : World} (h : Below w.heap.size w w') {k : Nat} {o : Obj} (e : w.heap[k]? = some o) : w'.heap[k]? = some o := by
  rw [h.block k (Array.getElem?_eq_some_iff.1 e).1]; exact e
theorem seen_none {w : World} {at_ : Addr} {u : TypeId} {a : Addr} {m : Bool} (e : w.heap[at_.block]? = none) (r) : w.seen P at_ u a m ≠ .ok r := by
  intro h
  unfold World.seen at h
  rw [e] at h
  simp only [bind, Except.bind, pure, Except.pure, throw, throwThe, MonadExcept.throw, MonadExceptOf.throw] at h
  repeat' (split at h)
  all_goals (first | contradiction | (simp at h; done))
theorem viewLoad_later {w w' : World} (hb : Below w.heap.size w w') {at_ : Addr} {u : TypeId} {a : Addr} {m : Bool} {r : Value × List Addr}
    (h : w.viewLoad P at_ u a m = .ok r) : w'.viewLoad P at_ u a m = .ok r := by
  cases e : w.heap[at_.block]? with
  | some o =>
    have e' := later_at hb e
    unfold World.viewLoad World.seen at *
    rw [e']; rw [e] at h; exact h
  | none =>
    exfalso
    unfold World.viewLoad at h
    cases hs : w.seen P at_ u a m with
    | ok r' => exact seen_none e r' hs
    | error s => rw [hs] at h; simp [bind, Except.bind] at h
theorem steady_load (a : Addr) (m : Mode) : Steady P (load a m) := by
  intro w v w1 h
  simp only [load, Sem.run] at h
  split at h
  · rename_i v' e
    injection h with h1 h2
    subst h1; subst h2
    refine .inl ⟨rfl, fun w' hb => ?_⟩
    simp only [load, Sem.run]
    rw [hb.cell (block_lt_of_cell e), e]
  · rename_i e
    split at h
    · rename_i v' t e2
      injection h with h1 h2
      subst h1; subst h2
      refine .inl ⟨rfl, fun w' hb => ?_⟩
      simp only [load, Sem.run]
      unfold World.farLoad at e2
      cases hk : w.heap[a.block]? with
      | none => rw [hk] at e2; simp at e2
      | some o =>
        have hk' := later_at hb hk
        have ec : w'.cell? a = none := by
          unfold World.cell? at e ⊢
          rw [hk']; rw [hk] at e; exact e
        rw [ec]
        unfold World.farLoad
        rw [hk']; rw [hk] at e2
        cases o <;> simp at e2 ⊢
        rename_i at_ u
        split at e2 <;> simp at e2
        rename_i r er
        subst e2
        rw [viewLoad_later hb er]
    · simp at h
theorem steady_getObj (r : Nat) : Steady P (getObj r) := by
  intro w v w1 h
  simp only [getObj, Sem.run] at h
  cases hk : w.heap[r]? with
  | none => rw [hk] at h; simp at h
  | some o =>
    rw [hk] at h
    cases o <;> simp at h
    all_goals
      obtain ⟨h1, h2⟩ := h
      subst h1; subst h2
      refine .inl ⟨rfl, fun w' hb => ?_⟩
      simp only [getObj, Sem.run, later_at hb hk]
/-- the shape of a block is asked, and where there is none the run ends -/
theorem steady_shape {r : Nat} {f : Option (TypeId × Nat) → Sem α} (h0 : ∀ w v w1, (f none).run P w ≠ .ok v w1) (h1 : ∀ s, Steady P (f (some s))) : Steady P (shape r >>= f) := by
  intro w v w1 h
  rw [Sem.run_bind] at h
  simp only [shape, Sem.run, Result.andThen] at h
  cases hs : w.shape? r with
  | none => rw [hs] at h; exact absurd h (h0 _ _ _)
  | some s =>
    rw [hs] at h
    rcases h1 s w v w1 h with ⟨rfl, hl⟩ | hg
    · refine .inl ⟨rfl, fun w' hb => ?_⟩
      rw [Sem.run_bind]
      simp only [shape, Sem.run, Result.andThen]
      have : w'.shape? r = some s := by
        unfold World.shape? at hs ⊢
        cases hk : w1.heap[r]? with
        | none => rw [hk] at hs; simp at hs
        | some o => rw [later_at hb hk]; rw [hk] at hs; exact hs
      rw [this]
      exact hl w' hb
    · exact .inr hg
/-- the shape of a block is asked, and where it has none the block itself is looked at -/
theorem steady_shape_obj {r : Nat} {x : Sem α} {f : Obj → Sem α} (hx : Steady P x) (hf : ∀ o, Steady P (f o)) :
    Steady P (shape r >>= fun s => if s.isSome = true then x else getObj r >>= f) := by
  intro w v w1 h
  rw [Sem.run_bind] at h
  simp only [shape, Sem.run, Result.andThen] at h
  have key : ∀ w', Below w.heap.size w w' → w.heap[r]? ≠ none → w'.shape? r = w.shape? r := by
    intro w' hb hne
    unfold World.shape?
    cases hk : w.heap[r]? with
    | none => exact absurd hk hne
    | some o => rw [later_at hb hk]
  have hne : w.heap[r]? ≠ none := by
    intro e
    have : w.shape? r = none := by unfold World.shape?; rw [e]
    rw [this] at h
    simp [getObj, Sem.run_bind, Sem.run, e, Result.andThen] at h
  have hst : Steady P (if (w.shape? r).isSome = true then x else getObj r >>= f) := steady_ite hx (steady_bind (steady_getObj r) hf)
  rcases hst w v w1 h with ⟨rfl, hl⟩ | hg
  · refine .inl ⟨rfl, fun w' hb => ?_⟩
    rw [Sem.run_bind]
    simp only [shape, Sem.run, Result.andThen]
    rw [key w' hb hne]
    exact hl w' hb
  · exact .inr hg
theorem steady_forIn {δ : Type} (f : δ → β → Sem (ForInStep β)) (hf : ∀ a b, Steady P (f a b)) : ∀ (l : List δ) (b : β), Steady P (forIn l b f)
  | [], b => by rw [List.forIn_nil]; exact steady_pure _
  | a :: l, b => by
    rw [List.forIn_cons]
    refine steady_bind (hf a b) fun s => ?_
    cases s with
    | done b' => exact steady_pure _
    | yield b' => exact steady_forIn f hf l b'
theorem steady_mapM {δ : Type} (f : δ → Sem β) (hf : ∀ a, Steady P (f a)) : ∀ (l : List δ), Steady P (l.mapM f)
  | [] => by simp only [List.mapM_nil]; exact steady_pure _
  | a :: l => by
    simp only [List.mapM_cons]
    exact steady_bind (hf a) fun _ => steady_bind (steady_mapM f hf l) fun _ => steady_pure _

theorem steady_typeInfo (t : TypeId) : Steady P (typeInfo t) := by
  unfold typeInfo
  refine steady_bind steady_program fun p => ?_
  split
  · exact steady_pure _
  · exact steady_stuck _
theorem steady_underlying (t : TypeId) : Steady P (underlying t) := by
  unfold underlying
  refine steady_bind steady_program fun p => ?_
  split
  · exact steady_pure _
  · exact steady_stuck _
theorem steady_zeroValue (t : TypeId) : Steady P (zeroValue t) := by
  unfold zeroValue
  refine steady_bind (steady_typeInfo t) fun p => ?_
  split
  · exact steady_pure _
  · exact steady_unsupported _
theorem steady_sizeOf (t : TypeId) : Steady P (sizeOf t) := by
  unfold sizeOf
  exact steady_bind (steady_typeInfo t) fun _ => steady_pure _
theorem steady_typeStr (t : TypeId) : Steady P (typeStr t) := by
  unfold typeStr
  refine steady_bind (steady_typeInfo t) fun i => ?_
  dsimp only
  split
  · exact steady_unsupported _
  · exact steady_pure _
theorem steady_isAgg (t : TypeId) : Steady P (isAgg t) := by
  unfold isAgg
  refine steady_bind (steady_underlying t) fun p => ?_
  split <;> exact steady_pure _
theorem steady_loadCellsFrom (a : Addr) : ∀ (n i : Nat) (acc : Array Value), Steady P (loadCellsFrom a i n acc)
  | 0, _, _ => steady_pure _
  | n + 1, i, acc => by
    unfold loadCellsFrom
    exact steady_bind (steady_load _ _) fun v => steady_loadCellsFrom a n (i + 1) (acc.push v)
theorem steady_loadVar (t : TypeId) (a : Addr) : Steady P (loadVar t a) := by
  unfold loadVar
  refine steady_bind (steady_isAgg t) fun b => steady_ite ?_ (steady_load _ _)
  exact steady_bind (steady_sizeOf t) fun n => steady_bind (steady_loadCellsFrom a n 0 #[]) fun _ => steady_pure _
theorem steady_part (t : TypeId) (cs : Array Value) (off : Nat) : Steady P (part t cs off) := by
  unfold part
  refine steady_bind (steady_isAgg t) fun b => steady_ite ?_ ?_
  · exact steady_bind (steady_sizeOf t) fun n => steady_pure _
  · split
    · exact steady_pure _
    · exact steady_stuck _
theorem Sem.run_bind_dead {x : Sem α} {f : α → Sem β} (hf : ∀ a w v w1, (f a).run P w ≠ .ok v w1) (w : World) (v : β) (w1 : World) : (x >>= f).run P w ≠ .ok v w1 := by
  intro h
  rw [Sem.run_bind] at h
  cases hr : x.run P w with
  | halt y w' => rw [hr] at h; simp at h
  | ok u w' => rw [hr] at h; exact hf u w' v w1 h
theorem dead_halt (y : Halt) (w : World) (v : α) (w1 : World) : (Sem.halt y : Sem α).run P w ≠ .ok v w1 := by simp [Sem.run]
theorem never_panic {e : RuntimeError} : ∀ (w : World) (v : α) (w1 : World), (runtimePanic e : Sem α).run P w ≠ .ok v w1 := by
  unfold runtimePanic
  refine Sem.run_bind_dead fun p => ?_
  cases e
  all_goals first
    | exact dead_halt _
    | (refine Sem.run_bind_dead fun a => ?_
       first
         | exact dead_halt _
         | (refine Sem.run_bind_dead fun b => ?_
            first | exact dead_halt _ | exact Sem.run_bind_dead fun c => dead_halt _))
theorem steady_panic (e : RuntimeError) : Steady P (runtimePanic e : Sem α) := fun w v w1 h => absurd h (never_panic w v w1)
theorem steady_boundsPanic (k : IntKind) (x y : Int) (c : BoundsCode) : Steady P (boundsPanic k x y c : Sem α) := by
  unfold boundsPanic
  split
  · exact steady_bind (steady_map _ (steady_choose _)) fun _ => steady_panic _
  · exact steady_bind (steady_pure _) fun _ => steady_panic _
theorem steady_asIntOf (v : Value) : Steady P (asIntOf v) := by
  unfold asIntOf
  split
  · exact steady_pure _
  · exact steady_unsupported _
  · exact steady_stuck _
theorem steady_asBool (v : Value) : Steady P (asBool v) := by
  unfold asBool
  split
  · exact steady_pure _
  · exact steady_stuck _
theorem steady_asAgg (v : Value) : Steady P (asAgg v) := by
  unfold asAgg
  split
  · exact steady_pure _
  · exact steady_stuck _
theorem steady_asAddr (v : Value) : Steady P (asAddr v) := by
  unfold asAddr
  split
  · exact steady_pure _
  · exact steady_panic _
  · exact steady_stuck _
theorem steady_sureAddr (v : Value) : Steady P (Instr.sureAddr v) := by
  unfold Instr.sureAddr
  split
  · exact steady_pure _
  · exact steady_stuck _
end
end Go.Proofs.YtediocpdpghbfaaDoor
