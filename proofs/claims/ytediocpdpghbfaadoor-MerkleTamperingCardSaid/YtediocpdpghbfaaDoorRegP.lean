/- Operations that only look: what they yield in a world they yield in every later world (one that is as that world was below its heap's size). Over any program. Which operations only look (a Bool over the operation's text): each of them is steady. Over any program. Which operations only look, continued: comparison, conversion, len and cap; the Bool over an operation's text. Over any program. Which operations only look, the end: every binary operation, conversion, len and cap; the Bool over an operation's text, and that it says so. Over any program. The Bool over an operation's text that says that it only looks, and its proof. Over any program. A region that draws its order, walked in ONE order: what only looks is taken as soon as it may come up, what acts comes up alone. Over any program. A region that draws its order, walked in one order, where an act that waits for everything before it (a store at the end) need not leave the world as it was. Over any program. A region that draws its order, walked by a tree of orders: where several acts may come up at once (a variable made beside a call), each way is walked; what only looks is taken as soon as it may come up. Over any program. -/
import Derived.WalkKit
import Derived.OrdersHeld
import Derived.Lib.Hide
set_option linter.unusedSimpArgs false
set_option linter.unusedVariables false
namespace Go.Proofs.YtediocpdpghbfaaDoor
open Go Go.RowKit

/-- the run left a greater heap, or asked the tape -/
def Grew (w w1 : World) : Prop := (w.heap.size < w1.heap.size ∨ w.drawn < w1.drawn) ∧ w.heap.size ≤ w1.heap.size ∧ w.drawn ≤ w1.drawn
theorem Grew.trans {a b c : World} (h : Grew a b) (k : Grew b c) : Grew a c := by
  unfold Grew at *; omega
theorem Grew.irrefl {a : World} (h : Grew a a) : False := by
  unfold Grew at h; omega

def Steady (P : Program) {α : Type} (x : Sem α) : Prop := ∀ (w : World) (v : α) (w1 : World), x.run P w = .ok v w1 →
  (w1 = w ∧ ∀ w', Below w.heap.size w w' → x.run P w' = .ok v w') ∨ Grew w w1

section
variable {P : Program} {α β : Type}

theorem steady_pure (a : α) : Steady P (pure a : Sem α) := by
  intro w v w1 h
  rw [Sem.run_pure] at h
  injection h with h1 h2
  subst h1; subst h2
  exact .inl ⟨rfl, fun w' _ => by rw [Sem.run_pure]⟩
theorem steady_halt (h : Halt) : Steady P (.halt h : Sem α) := by
  intro w v w1 e
  simp [Sem.run] at e
theorem steady_bind {x : Sem α} {f : α → Sem β} (hx : Steady P x) (hf : ∀ a, Steady P (f a)) : Steady P (x >>= f) := by
  intro w v w2 e
  rw [Sem.run_bind] at e
  cases hr : x.run P w with
  | halt h w' => rw [hr] at e; simp at e
  | ok u w1 =>
    rw [hr] at e
    simp only [Result.andThen] at e
    rcases hx w u w1 hr with ⟨rfl, hl⟩ | hg
    · rcases hf u w1 v w2 e with ⟨rfl, hl2⟩ | hg2
      · exact .inl ⟨rfl, fun w' hb => by rw [Sem.run_bind, hl w' hb]; simp only [Result.andThen]; exact hl2 w' hb⟩
      · exact .inr hg2
    · rcases hf u w1 v w2 e with ⟨rfl, _⟩ | hg2
      · exact .inr hg
      · exact .inr (hg.trans hg2)
theorem steady_map {x : Sem α} (f : α → β) (hx : Steady P x) : Steady P (f <$> x) := steady_bind hx fun _ => steady_pure _
theorem steady_ite {c : Prop} [Decidable c] {x y : Sem α} (hx : Steady P x) (hy : Steady P y) : Steady P (if c then x else y) := by split <;> assumption
theorem steady_stuck (s : String) : Steady P (stuck s : Sem α) := steady_halt _
theorem steady_unsupported (u : Unsupported) : Steady P (unsupported u : Sem α) := steady_halt _
theorem steady_program : Steady P program := by
  intro w v w1 h
  simp only [program, Sem.run] at h
  injection h with h1 h2
  subst h1; subst h2
  exact .inl ⟨rfl, fun w' _ => rfl⟩
theorem steady_mark (m : Mark) : Steady P (mark m) := by
  intro w v w1 h
  simp only [mark, Sem.run] at h
  injection h with h1 h2
  subst h1; subst h2
  exact .inl ⟨rfl, fun w' _ => rfl⟩
theorem steady_new (o : Obj) : Steady P (newObj o) := by
  intro w v w1 h
  simp only [newObj, Sem.run] at h
  injection h with h1 h2
  subst h1; subst h2
  refine .inr ?_
  simp only [Grew, Array.size_push]; omega
theorem steady_choose (q : Question) : Steady P (choose q) := by
  intro w v w1 h
  simp only [Go.choose, Sem.run] at h
  split at h
  · injection h with h1 h2
    subst h1; subst h2
    refine .inl ⟨rfl, fun w' _ => ?_⟩
    simp only [Go.choose, Sem.run]
    rw [if_pos ‹_›]
  · injection h with h1 h2
    subst h1; subst h2
    refine .inr ?_
    simp only [Grew]; omega
theorem later_at {w w' : World} (h : Below w.heap.size w w') {k : Nat} {o : Obj} (e : w.heap[k]? = some o) : w'.heap[k]? = some o := by
  rw [h.block k (Array.getElem?_eq_some_iff.1 e).1]; exact e
theorem seen_none {w : World} {at_ : Addr} {u : TypeId} {a : Addr} {m : Bool} (e : w.heap[at_.block]? = none) (r) : w.seen P at_ u a m ≠ .ok r := by
  intro h
  unfold World.seen at h
  rw [e] at h
  simp only [bind, Except.bind, pure, Except.pure, throw, throwThe, MonadExcept.throw, MonadExceptOf.throw] at h
  repeat' (split at h)
  all_goals (first | contradiction | (simp at h; done))
theorem viewLoad_later {w w' : World} (hb : Below w.heap.size w w') {at_ : Addr} {u : TypeId} {a : Addr} {m : Bool} {r : Value × List Addr}
    (h : w.viewLoad P at_ u a m = .ok r) : w'.viewLoad P at_ u a m = .ok r := by
  cases e : w.heap[at_.block]? with
  | some o =>
    have e' := later_at hb e
    unfold World.viewLoad World.seen at *
    rw [e']; rw [e] at h; exact h
  | none =>
    exfalso
    unfold World.viewLoad at h
    cases hs : w.seen P at_ u a m with
    | ok r' => exact seen_none e r' hs
    | error s => rw [hs] at h; simp [bind, Except.bind] at h
theorem steady_load (a : Addr) (m : Mode) : Steady P (load a m) := by
  intro w v w1 h
  simp only [load, Sem.run] at h
  split at h
  · rename_i v' e
    injection h with h1 h2
    subst h1; subst h2
    refine .inl ⟨rfl, fun w' hb => ?_⟩
    simp only [load, Sem.run]
    rw [hb.cell (block_lt_of_cell e), e]
  · rename_i e
    split at h
    · rename_i v' t e2
      injection h with h1 h2
      subst h1; subst h2
      refine .inl ⟨rfl, fun w' hb => ?_⟩
      simp only [load, Sem.run]
      unfold World.farLoad at e2
      cases hk : w.heap[a.block]? with
      | none => rw [hk] at e2; simp at e2
      | some o =>
        have hk' := later_at hb hk
        have ec : w'.cell? a = none := by
          unfold World.cell? at e ⊢
          rw [hk']; rw [hk] at e; exact e
        rw [ec]
        unfold World.farLoad
        rw [hk']; rw [hk] at e2
        cases o <;> simp at e2 ⊢
        rename_i at_ u
        split at e2 <;> simp at e2
        rename_i r er
        subst e2
        rw [viewLoad_later hb er]
    · simp at h
theorem steady_getObj (r : Nat) : Steady P (getObj r) := by
  intro w v w1 h
  simp only [getObj, Sem.run] at h
  cases hk : w.heap[r]? with
  | none => rw [hk] at h; simp at h
  | some o =>
    rw [hk] at h
    cases o <;> simp at h
    all_goals
      obtain ⟨h1, h2⟩ := h
      subst h1; subst h2
      refine .inl ⟨rfl, fun w' hb => ?_⟩
      simp only [getObj, Sem.run, later_at hb hk]
/-- the shape of a block is asked, and where there is none the run ends -/
theorem steady_shape {r : Nat} {f : Option (TypeId × Nat) → Sem α} (h0 : ∀ w v w1, (f none).run P w ≠ .ok v w1) (h1 : ∀ s, Steady P (f (some s))) : Steady P (shape r >>= f) := by
  intro w v w1 h
  rw [Sem.run_bind] at h
  simp only [shape, Sem.run, Result.andThen] at h
  cases hs : w.shape? r with
  | none => rw [hs] at h; exact absurd h (h0 _ _ _)
  | some s =>
    rw [hs] at h
    rcases h1 s w v w1 h with ⟨rfl, hl⟩ | hg
    · refine .inl ⟨rfl, fun w' hb => ?_⟩
      rw [Sem.run_bind]
      simp only [shape, Sem.run, Result.andThen]
      have : w'.shape? r = some s := by
        unfold World.shape? at hs ⊢
        cases hk : w1.heap[r]? with
        | none => rw [hk] at hs; simp at hs
        | some o => rw [later_at hb hk]; rw [hk] at hs; exact hs
      rw [this]
      exact hl w' hb
    · exact .inr hg
/-- the shape of a block is asked, and where it has none the block itself is looked at -/
theorem steady_shape_obj {r : Nat} {x : Sem α} {f : Obj → Sem α} (hx : Steady P x) (hf : ∀ o, Steady P (f o)) :
    Steady P (shape r >>= fun s => if s.isSome = true then x else getObj r >>= f) := by
  intro w v w1 h
  rw [Sem.run_bind] at h
  simp only [shape, Sem.run, Result.andThen] at h
  have key : ∀ w', Below w.heap.size w w' → w.heap[r]? ≠ none → w'.shape? r = w.shape? r := by
    intro w' hb hne
    unfold World.shape?
    cases hk : w.heap[r]? with
    | none => exact absurd hk hne
    | some o => rw [later_at hb hk]
  have hne : w.heap[r]? ≠ none := by
    intro e
    have : w.shape? r = none := by unfold World.shape?; rw [e]
    rw [this] at h
    simp [getObj, Sem.run_bind, Sem.run, e, Result.andThen] at h
  have hst : Steady P (if (w.shape? r).isSome = true then x else getObj r >>= f) := steady_ite hx (steady_bind (steady_getObj r) hf)
  rcases hst w v w1 h with ⟨rfl, hl⟩ | hg
  · refine .inl ⟨rfl, fun w' hb => ?_⟩
    rw [Sem.run_bind]
    simp only [shape, Sem.run, Result.andThen]
    rw [key w' hb hne]
    exact hl w' hb
  · exact .inr hg
theorem steady_forIn {δ : Type} (f : δ → β → Sem (ForInStep β)) (hf : ∀ a b, Steady P (f a b)) : ∀ (l : List δ) (b : β), Steady P (forIn l b f)
  | [], b => by rw [List.forIn_nil]; exact steady_pure _
  | a :: l, b => by
    rw [List.forIn_cons]
    refine steady_bind (hf a b) fun s => ?_
    cases s with
    | done b' => exact steady_pure _
    | yield b' => exact steady_forIn f hf l b'
theorem steady_mapM {δ : Type} (f : δ → Sem β) (hf : ∀ a, Steady P (f a)) : ∀ (l : List δ), Steady P (l.mapM f)
  | [] => by simp only [List.mapM_nil]; exact steady_pure _
  | a :: l => by
    simp only [List.mapM_cons]
    exact steady_bind (hf a) fun _ => steady_bind (steady_mapM f hf l) fun _ => steady_pure _

theorem steady_typeInfo (t : TypeId) : Steady P (typeInfo t) := by
  unfold typeInfo
  refine steady_bind steady_program fun p => ?_
  split
  · exact steady_pure _
  · exact steady_stuck _
theorem steady_underlying (t : TypeId) : Steady P (underlying t) := by
  unfold underlying
  refine steady_bind steady_program fun p => ?_
  split
  · exact steady_pure _
  · exact steady_stuck _
theorem steady_zeroValue (t : TypeId) : Steady P (zeroValue t) := by
  unfold zeroValue
  refine steady_bind (steady_typeInfo t) fun p => ?_
  split
  · exact steady_pure _
  · exact steady_unsupported _
theorem steady_sizeOf (t : TypeId) : Steady P (sizeOf t) := by
  unfold sizeOf
  exact steady_bind (steady_typeInfo t) fun _ => steady_pure _
theorem steady_typeStr (t : TypeId) : Steady P (typeStr t) := by
  unfold typeStr
  refine steady_bind (steady_typeInfo t) fun i => ?_
  dsimp only
  split
  · exact steady_unsupported _
  · exact steady_pure _
theorem steady_isAgg (t : TypeId) : Steady P (isAgg t) := by
  unfold isAgg
  refine steady_bind (steady_underlying t) fun p => ?_
  split <;> exact steady_pure _
theorem steady_loadCellsFrom (a : Addr) : ∀ (n i : Nat) (acc : Array Value), Steady P (loadCellsFrom a i n acc)
  | 0, _, _ => steady_pure _
  | n + 1, i, acc => by
    unfold loadCellsFrom
    exact steady_bind (steady_load _ _) fun v => steady_loadCellsFrom a n (i + 1) (acc.push v)
theorem steady_loadVar (t : TypeId) (a : Addr) : Steady P (loadVar t a) := by
  unfold loadVar
  refine steady_bind (steady_isAgg t) fun b => steady_ite ?_ (steady_load _ _)
  exact steady_bind (steady_sizeOf t) fun n => steady_bind (steady_loadCellsFrom a n 0 #[]) fun _ => steady_pure _
theorem steady_part (t : TypeId) (cs : Array Value) (off : Nat) : Steady P (part t cs off) := by
  unfold part
  refine steady_bind (steady_isAgg t) fun b => steady_ite ?_ ?_
  · exact steady_bind (steady_sizeOf t) fun n => steady_pure _
  · split
    · exact steady_pure _
    · exact steady_stuck _
theorem Sem.run_bind_dead {x : Sem α} {f : α → Sem β} (hf : ∀ a w v w1, (f a).run P w ≠ .ok v w1) (w : World) (v : β) (w1 : World) : (x >>= f).run P w ≠ .ok v w1 := by
  intro h
  rw [Sem.run_bind] at h
  cases hr : x.run P w with
  | halt y w' => rw [hr] at h; simp at h
  | ok u w' => rw [hr] at h; exact hf u w' v w1 h
theorem dead_halt (y : Halt) (w : World) (v : α) (w1 : World) : (Sem.halt y : Sem α).run P w ≠ .ok v w1 := by simp [Sem.run]
theorem never_panic {e : RuntimeError} : ∀ (w : World) (v : α) (w1 : World), (runtimePanic e : Sem α).run P w ≠ .ok v w1 := by
  unfold runtimePanic
  refine Sem.run_bind_dead fun p => ?_
  cases e
  all_goals first
    | exact dead_halt _
    | (refine Sem.run_bind_dead fun a => ?_
       first
         | exact dead_halt _
         | (refine Sem.run_bind_dead fun b => ?_
            first | exact dead_halt _ | exact Sem.run_bind_dead fun c => dead_halt _))
theorem steady_panic (e : RuntimeError) : Steady P (runtimePanic e : Sem α) := fun w v w1 h => absurd h (never_panic w v w1)
theorem steady_boundsPanic (k : IntKind) (x y : Int) (c : BoundsCode) : Steady P (boundsPanic k x y c : Sem α) := by
  unfold boundsPanic
  split
  · exact steady_bind (steady_map _ (steady_choose _)) fun _ => steady_panic _
  · exact steady_bind (steady_pure _) fun _ => steady_panic _
theorem steady_asIntOf (v : Value) : Steady P (asIntOf v) := by
  unfold asIntOf
  split
  · exact steady_pure _
  · exact steady_unsupported _
  · exact steady_stuck _
theorem steady_asBool (v : Value) : Steady P (asBool v) := by
  unfold asBool
  split
  · exact steady_pure _
  · exact steady_stuck _
theorem steady_asAgg (v : Value) : Steady P (asAgg v) := by
  unfold asAgg
  split
  · exact steady_pure _
  · exact steady_stuck _
theorem steady_asAddr (v : Value) : Steady P (asAddr v) := by
  unfold asAddr
  split
  · exact steady_pure _
  · exact steady_panic _
  · exact steady_stuck _
theorem steady_sureAddr (v : Value) : Steady P (Instr.sureAddr v) := by
  unfold Instr.sureAddr
  split
  · exact steady_pure _
  · exact steady_stuck _
end
end Go.Proofs.YtediocpdpghbfaaDoor
namespace Go.Proofs.YtediocpdpghbfaaDoor
open Go Go.RowKit

section
variable {P : Program} {α β : Type}

theorem steady_numberAt (r : Nat) : Steady P (numberAt r) := by
  unfold numberAt
  exact steady_shape_obj (steady_pure _) fun o => by split <;> exact steady_pure _
theorem steady_viewAt (r : Nat) : Steady P (viewAt r) := by
  unfold viewAt
  exact steady_shape_obj (steady_pure _) fun o => by split <;> exact steady_pure _
theorem steady_noView (a : Addr) : Steady P (noView a) := by
  unfold noView
  exact steady_bind (steady_viewAt _) fun o => steady_ite (steady_unsupported _) (steady_pure _)
theorem steady_behindNumber (n : Addr) : Steady P (behindNumber n) := by
  unfold behindNumber
  exact steady_bind (steady_numberAt _) fun o => steady_pure _
theorem steady_byteOf (a : Addr) : Steady P (byteOf a) := by
  unfold byteOf
  split
  · exact steady_pure _
  · refine steady_bind steady_program fun p => steady_bind (steady_noView _) fun _ => ?_
    refine steady_shape (fun w v w1 h => by simp [stuck, Sem.run] at h) fun s => ?_
    obtain ⟨e, n⟩ := s
    dsimp only
    refine steady_ite (steady_pure _) ?_
    split
    · exact steady_pure _
    · exact steady_stuck _
theorem steady_partAt (a : Addr) (c b : Nat) : Steady P (partAt a c b) := by
  unfold partAt
  exact steady_bind (steady_byteOf _) fun x => steady_bind (steady_byteOf _) fun y => steady_pure _
theorem steady_fieldPlace (a : Addr) (f : Field) : Steady P (fieldPlace a f) := by
  unfold fieldPlace
  exact steady_bind (steady_sizeOf _) fun x => steady_ite (steady_partAt _ _ _) (steady_pure _)
theorem steady_asNumber (a : Addr) (l : Bool) : Steady P (asNumber a l) := by
  unfold asNumber
  exact steady_bind (steady_new _) fun x => steady_pure _
theorem steady_fieldAt (s : TypeId) (x : Value) (f : Nat) : Steady P (Instr.fieldAt s x f) := by
  unfold Instr.fieldAt
  refine steady_bind (steady_underlying _) fun d => ?_
  split
  · split
    · exact steady_bind (steady_sureAddr _) fun a => steady_bind (steady_fieldPlace _ _) fun _ => steady_pure _
    · exact steady_stuck _
  · exact steady_stuck _
theorem steady_indexAt (t : TypeId) (x i : Value) : Steady P (Instr.indexAt t x i) := by
  unfold Instr.indexAt
  refine steady_bind (steady_asIntOf _) fun ki => ?_
  obtain ⟨k, i⟩ := ki
  dsimp only
  refine steady_bind (steady_underlying _) fun d => ?_
  repeat' first
    | exact steady_pure _
    | exact steady_stuck _
    | exact steady_unsupported _
    | exact steady_boundsPanic _ _ _ _
    | exact steady_sureAddr _
    | exact steady_underlying _
    | exact steady_sizeOf _
    | split
    | refine steady_bind ?_ fun _ => ?_
theorem steady_sliceBound (x : Value) (y : Nat) (c : BoundsCode) : Steady P (Instr.sliceBound x y c) := by
  unfold Instr.sliceBound
  refine steady_bind (steady_asIntOf _) fun ki => ?_
  exact steady_ite (steady_pure _) (steady_boundsPanic _ _ _ _)
theorem steady_sliceBounds (s : Bool) (l c : Nat) (lo hi mx : Option Value) : Steady P (Instr.sliceBounds s l c lo hi mx) := by
  unfold Instr.sliceBounds
  dsimp only
  repeat' first
    | exact steady_pure _
    | exact steady_stuck _
    | exact steady_sliceBound _ _ _
    | split
    | refine steady_bind ?_ fun _ => ?_
theorem steady_slice (t : TypeId) (x : Value) (lo hi mx : Option Value) : Steady P (Instr.slice t x lo hi mx) := by
  unfold Instr.slice
  refine steady_bind (steady_underlying _) fun d => ?_
  split
  · split
    · exact steady_bind (steady_stuck _) fun _ => steady_bind (steady_sliceBounds _ _ _ _ _ _) fun _ => steady_pure _
    · exact steady_bind (steady_sliceBounds _ _ _ _ _ _) fun _ => steady_pure _
  · exact steady_bind (steady_sliceBounds _ _ _ _ _ _) fun _ => steady_bind (steady_sizeOf _) fun _ => steady_pure _
  · refine steady_bind (steady_asAddr _) fun a => steady_bind (steady_underlying _) fun d => ?_
    split
    · exact steady_bind (steady_sliceBounds _ _ _ _ _ _) fun _ => steady_bind (steady_sizeOf _) fun _ => steady_pure _
    · exact steady_stuck _
  · exact steady_stuck _
theorem steady_sliceAt (t : TypeId) (x : Value) (lo hi mx : Option Value) : Steady P (Instr.sliceAt t x lo hi mx) := by
  unfold Instr.sliceAt
  refine steady_bind (steady_underlying _) fun d => ?_
  split
  · exact steady_bind (steady_sureAddr _) fun _ => steady_bind (steady_sliceBounds _ _ _ _ _ _) fun _ => steady_bind (steady_sizeOf _) fun _ => steady_pure _
  · exact steady_slice _ _ _ _ _
theorem steady_field (t : TypeId) (x : Value) (f : Nat) : Steady P (Instr.field t x f) := by
  unfold Instr.field
  refine steady_bind (steady_underlying _) fun d => ?_
  split
  · split
    · exact steady_bind (steady_asAgg _) fun _ => steady_part _ _ _
    · exact steady_stuck _
  · exact steady_stuck _
theorem steady_index (t : TypeId) (x i : Value) : Steady P (Instr.index t x i) := by
  unfold Instr.index
  refine steady_bind (steady_asIntOf _) fun ki => ?_
  obtain ⟨k, i⟩ := ki
  dsimp only
  refine steady_bind (steady_underlying _) fun d => ?_
  split
  · refine steady_ite ?_ (steady_boundsPanic _ _ _ _)
    exact steady_bind (steady_sizeOf _) fun _ => steady_part _ _ _
  · split
    · exact steady_pure _
    · exact steady_boundsPanic _ _ _ _
  · exact steady_stuck _
theorem steady_loadAt (t : TypeId) (x : Value) : Steady P (Instr.loadAt t x) := by
  unfold Instr.loadAt
  exact steady_bind (steady_sureAddr _) fun _ => steady_loadVar _ _
theorem steady_extract (x : Value) (i : Nat) : Steady P (Instr.extract x i) := by
  unfold Instr.extract
  repeat' split
  all_goals first | exact steady_pure _ | exact steady_stuck _
theorem steady_makeInterface (t : TypeId) (x : Value) : Steady P (Instr.makeInterface t x) := by
  unfold Instr.makeInterface
  refine steady_bind (steady_underlying _) fun d => ?_
  split
  · exact steady_stuck _
  · exact steady_pure _
theorem steady_build (t : TypeId) (ps : Array (Nat × Value)) : Steady P (Instr.build t ps) := by
  unfold Instr.build
  refine steady_bind (steady_zeroValue _) fun z => steady_bind (steady_underlying _) fun d => ?_
  split
  · refine steady_bind ?_ fun pl => ?_
    · rw [Array.mapM_eq_mapM_toList]
      exact steady_map _ (steady_mapM _ (fun a => steady_bind (steady_sizeOf _) fun _ => steady_pure _) _)
    · split
      · exact steady_pure _
      · exact steady_stuck _
  · refine steady_bind (steady_sizeOf _) fun n => ?_
    split
    · exact steady_pure _
    · exact steady_stuck _
  · exact steady_stuck _
theorem steady_followBlind : ∀ (l : List FieldStep) (t : TypeId) (x : Option Value), Steady P (followBlind l t x)
  | [], _, _ => steady_pure _
  | s :: rest, t, x => by
    unfold followBlind
    refine steady_bind (steady_underlying _) fun d => ?_
    split
    · split
      · split
        all_goals first
          | exact steady_pure _
          | exact steady_stuck _
          | exact steady_followBlind rest _ _
          | exact steady_bind (steady_part _ _ _) fun _ => steady_followBlind rest _ _
      · exact steady_stuck _
    · exact steady_stuck _
theorem steady_nilAhead : ∀ (n : Nat) (t : TypeId) (v : Value) (s : String), Steady P (nilAhead n t v s)
  | 0, _, _, _ => steady_pure _
  | n + 1, t, v, s => by
    unfold nilAhead
    refine steady_bind (steady_typeInfo _) fun i => ?_
    split
    · refine steady_bind (steady_followBlind _ _ _) fun r => ?_
      split
      · exact steady_pure _
      · split
        all_goals first
          | exact steady_nilAhead n _ _ _
          | exact steady_pure _
          | exact steady_stuck _
          | (refine steady_bind (steady_underlying _) fun d => ?_
             split <;> exact steady_pure _)
    · exact steady_stuck _

/-! arithmetic, comparisons -/
theorem steady_intArith (op : BinOp) (k : IntKind) (x y : Int) : Steady P (Op.intArith op k x y) := by
  unfold Op.intArith
  split <;> first | exact steady_pure _ | exact steady_stuck _
theorem steady_intDiv (op : BinOp) (k : IntKind) (x y : Int) : Steady P (Op.intDiv op k x y) := by
  unfold Op.intDiv
  refine steady_ite (steady_panic _) ?_
  split <;> first | exact steady_pure _ | exact steady_stuck _
theorem steady_intBits (op : BinOp) (k : IntKind) (x y : Int) : Steady P (Op.intBits op k x y) := by
  unfold Op.intBits
  dsimp only
  split <;> first | exact steady_pure _ | exact steady_stuck _
theorem steady_intCmp (op : BinOp) (x y : Int) : Steady P (Op.intCmp op x y) := by
  unfold Op.intCmp
  split <;> first | exact steady_pure _ | exact steady_stuck _
theorem steady_shift (op : BinOp) (k : IntKind) (x : Int) (j : IntKind) (y : Int) : Steady P (Op.shift op k x j y) := by
  unfold Op.shift
  refine steady_ite (steady_panic _) ?_
  dsimp only
  split <;> first | exact steady_pure _ | exact steady_stuck _
theorem steady_stringOp (op : BinOp) (x y : ByteArray) : Steady P (Op.stringOp op x y) := by
  unfold Op.stringOp
  dsimp only
  split
  · exact steady_ite (steady_unsupported _) (steady_pure _)
  all_goals first | exact steady_pure _ | exact steady_stuck _
theorem steady_floatCmp (op : BinOp) (k : FloatKind) (x y : Nat) : Steady P (Op.floatCmp op k x y) := by
  unfold Op.floatCmp
  dsimp only
  split <;> first | exact steady_pure _ | exact steady_stuck _
theorem steady_floatArith (op : BinOp) (k : FloatKind) (x y : Nat) : Steady P (Op.floatArith op k x y) := by
  unfold Op.floatArith
  dsimp only
  repeat' first
    | exact steady_pure _
    | exact steady_stuck _
    | exact steady_choose _
    | split
    | refine steady_bind ?_ fun _ => ?_
theorem steady_unary (op : UnOp) (x : Value) : Steady P (Op.unary op x) := by
  unfold Op.unary
  split <;> first | exact steady_pure _ | exact steady_stuck _ | exact steady_unsupported _ | exact steady_intArith _ _ _ _ | exact steady_intBits _ _ _ _
end
end Go.Proofs.YtediocpdpghbfaaDoor
namespace Go.Proofs.YtediocpdpghbfaaDoor
open Go Go.RowKit

section
variable {P : Program} {α β : Type}

theorem steady_underlying_bind {t : TypeId} {f : TypeDesc → Sem α} (h : ∀ d, P.underlying t = some d → Steady P (f d)) : Steady P (underlying t >>= f) := by
  intro w v w1 e
  unfold underlying at e ⊢
  simp only [Sem.run_bind, program, Sem.run, Result.andThen] at e ⊢
  cases hd : P.underlying t with
  | none => rw [hd] at e; simp [stuck, Sem.run] at e
  | some d =>
    rw [hd] at e
    have := h d hd w v w1 (by simpa [Sem.run_pure] using e)
    simpa [Sem.run_pure] using this
theorem steady_typeInfo_bind {t : TypeId} {f : TypeInfo → Sem α} (h : ∀ d, P.info? t = some d → Steady P (f d)) : Steady P (typeInfo t >>= f) := by
  intro w v w1 e
  unfold typeInfo at e ⊢
  simp only [Sem.run_bind, program, Sem.run, Result.andThen] at e ⊢
  cases hd : P.info? t with
  | none => rw [hd] at e; simp [stuck, Sem.run] at e
  | some d =>
    rw [hd] at e
    have := h d hd w v w1 (by simpa [Sem.run_pure] using e)
    simpa [Sem.run_pure] using this
theorem steady_forIn_mem {δ : Type} (f : δ → β → Sem (ForInStep β)) : ∀ (l : List δ) (b : β), (∀ a ∈ l, ∀ b, Steady P (f a b)) → Steady P (forIn l b f)
  | [], b, _ => by rw [List.forIn_nil]; exact steady_pure _
  | a :: l, b, hf => by
    rw [List.forIn_cons]
    refine steady_bind (hf a (List.mem_cons_self ..) b) fun s => ?_
    cases s with
    | done b' => exact steady_pure _
    | yield b' => exact steady_forIn_mem f l b' fun a ha => hf a (List.mem_cons_of_mem _ ha)
/-- a type whose equality looks at no address -/
def eqT (P : Program) : Nat → TypeId → Bool
  | 0, _ => false
  | n + 1, t => match P.underlying t with
    | some .bool | some (.int _) | some (.float _) | some (.complex _) | some .string | some (.slice _) | some (.map _ _) | some (.func _ _ _) | some (.chan _ _) => true
    | some (.struct fs) => fs.toList.all fun f => eqT P n f.type
    | some (.array _ e) => eqT P n e
    | _ => false
theorem steady_equalIn : ∀ (n d : Nat) (t : TypeId) (x y : Value), eqT P n t = true → Steady P (Op.equalIn d t x y)
  | 0, _, _, _, _, h => by simp [eqT] at h
  | _ + 1, 0, _, _, _, _ => by unfold Op.equalIn; exact steady_unsupported _
  | n + 1, d + 1, t, x, y, h => by
    unfold Op.equalIn
    refine steady_underlying_bind fun ud hu => ?_
    unfold eqT at h
    rw [hu] at h
    split
    all_goals first
      | exact steady_pure _
      | exact steady_stuck _
      | exact steady_unsupported _
      | (simp at h; done)
      | exact steady_ite (steady_pure _) (steady_stuck _)
      | skip
    · refine steady_bind (steady_behindNumber _) fun a => steady_bind (steady_behindNumber _) fun b => ?_
      dsimp only
      refine steady_bind steady_program fun p => ?_
      split
      · exact steady_bind (steady_byteOf _) fun _ => steady_bind (steady_byteOf _) fun _ => steady_pure _
      · refine steady_bind (steady_typeInfo _) fun i => ?_
        split
        · exact steady_ite (steady_pure _) (steady_unsupported _)
        · exact steady_unsupported _
    · rename_i fields xs ys
      simp only at h
      refine steady_bind steady_program fun p => ?_
      have fin : ∀ r : Option Bool, Steady P (match r with | some b => (pure b : Sem Bool) | none => pure true) := fun r => by cases r <;> exact steady_pure _
      refine steady_ite (steady_bind (steady_unsupported _) fun _ => ?_) ?_
      all_goals
        refine steady_bind ?_ fun s => ?_
        · rw [← Array.forIn_toList]
          refine steady_forIn_mem _ _ _ fun f hf r => ?_
          have he : eqT P n f.type = true := List.all_eq_true.1 h f hf
          repeat' first
            | exact steady_pure _
            | exact steady_part _ _ _
            | exact steady_equalIn n d _ _ _ he
            | split
            | refine steady_bind ?_ fun _ => ?_
        · dsimp only
          split <;> exact steady_pure _
    · rename_i len elem xs ys
      simp only at h
      refine steady_bind (steady_sizeOf _) fun m => steady_bind ?_ fun s => ?_
      · rw [Std.Legacy.Range.forIn_eq_forIn_range']
        refine steady_forIn_mem _ _ _ fun f hf r => ?_
        repeat' first
          | exact steady_pure _
          | exact steady_part _ _ _
          | exact steady_equalIn n d _ _ _ h
          | split
          | refine steady_bind ?_ fun _ => ?_
      · dsimp only
        split <;> exact steady_pure _
end
end Go.Proofs.YtediocpdpghbfaaDoor
namespace Go.Proofs.YtediocpdpghbfaaDoor
open Go Go.RowKit

section
variable {P : Program} {α β : Type}

theorem steady_floatToFloat (s : FloatKind) (b : Nat) (k : FloatKind) : Steady P (Conv.floatToFloat s b k) := by
  unfold Conv.floatToFloat
  dsimp only
  repeat' first
    | exact steady_pure _
    | exact steady_choose _
    | split
    | refine steady_bind ?_ fun _ => ?_
theorem steady_carith (op : BinOp) (k : FloatKind) (x y : Nat) : Steady P (Op.Complex.arith op k x y) := by
  unfold Op.Complex.arith
  refine steady_bind (steady_floatArith _ _ _ _) fun r => ?_
  split <;> first | exact steady_pure _ | exact steady_stuck _
theorem steady_ccmp (op : BinOp) (k : FloatKind) (x y : Nat) : Steady P (Op.Complex.cmp op k x y) := by
  unfold Op.Complex.cmp
  exact steady_bind (steady_floatCmp _ _ _ _) fun r => steady_asBool _
theorem steady_cconv (s : FloatKind) (x : Nat) (k : FloatKind) : Steady P (Op.Complex.conv s x k) := by
  unfold Op.Complex.conv
  refine steady_ite (steady_pure _) (steady_bind (steady_floatToFloat _ _ _) fun r => ?_)
  split <;> first | exact steady_pure _ | exact steady_stuck _
theorem steady_cproduct (a b c d : Nat) : Steady P (Op.Complex.product a b c d) := by
  simp only [Op.Complex.product, Op.Complex.add, Op.Complex.sub, Op.Complex.mul]
  repeat' first
    | with_reducible exact steady_pure _
    | with_reducible exact steady_carith _ _ _ _
    | with_reducible refine steady_bind ?_ fun _ => ?_
theorem steady_ccorrected (s a b c d : Nat) : Steady P (Op.Complex.corrected s a b c d) := by
  simp only [Op.Complex.corrected, Op.Complex.add, Op.Complex.sub, Op.Complex.mul]
  repeat' first
    | with_reducible exact steady_pure _
    | with_reducible exact steady_carith _ _ _ _
    | with_reducible refine steady_bind ?_ fun _ => ?_
theorem steady_cquotient (a b c d : Nat) : Steady P (Op.Complex.quotient a b c d) := by
  unfold Op.Complex.quotient Op.Complex.add Op.Complex.sub Op.Complex.mul Op.Complex.quo
  with_reducible refine steady_bind (steady_ccmp _ _ _ _) fun q => ?_
  dsimp only
  repeat' first
    | with_reducible exact steady_ccorrected _ _ _ _ _
    | with_reducible exact steady_pure _
    | with_reducible exact steady_carith _ _ _ _
    | with_reducible exact steady_ccmp _ _ _ _
    | split
    | with_reducible refine steady_bind ?_ fun _ => ?_
theorem steady_complexOp (op : BinOp) (k : FloatKind) (a b c d : Nat) : Steady P (Op.complexOp op k a b c d) := by
  unfold Op.complexOp
  repeat' first
    | with_reducible exact steady_pure _
    | with_reducible exact steady_stuck _
    | with_reducible exact steady_carith _ _ _ _
    | with_reducible exact steady_ccmp _ _ _ _
    | with_reducible exact steady_cconv _ _ _
    | with_reducible exact steady_cproduct _ _ _ _
    | with_reducible exact steady_cquotient _ _ _ _
    | split
    | with_reducible refine steady_bind ?_ fun _ => ?_
theorem steady_unsafeAdd (ts : Array TypeId) (t : TypeId) (xs : Array Value) : Steady P (Builtin.unsafeAdd_ ts t xs) := by
  obtain ⟨l⟩ := xs
  rcases l with _ | ⟨x, _ | ⟨y, _ | ⟨z, l⟩⟩⟩
  · exact steady_stuck _
  · cases x <;> exact steady_stuck _
  · cases x
    case pointer ptr =>
      unfold Builtin.unsafeAdd_
      dsimp only
      refine steady_bind ?_ fun n => ?_
      · unfold asInt
        exact steady_bind (steady_asIntOf _) fun _ => steady_pure _
      · have rest : ∀ a : Addr, Steady P (shape a.block >>= fun s => match s with
            | some (e, cells) => do
              let p ← program
              match cellAtBytes p p.depth e (cells / p.cellsOf e) a.off n with
              | some off => pure (.pointer (some { a with off }))
              | none => unsupported (.unsafePointer "Add")
            | _ => (unsupported (.unsafePointer "Add") : Sem Value)) := fun a => by
          refine steady_shape (fun w v w1 h => by simp [unsupported, Sem.run] at h) fun s => ?_
          obtain ⟨e, c⟩ := s
          dsimp only
          refine steady_bind steady_program fun p => ?_
          split <;> first | exact steady_pure _ | exact steady_unsupported _
        repeat' first
          | with_reducible exact steady_pure _
          | with_reducible exact steady_unsupported _
          | with_reducible exact steady_viewAt _
          | with_reducible exact rest _
          | exact rest _
          | split
          | with_reducible refine steady_bind ?_ fun _ => ?_
    all_goals exact steady_stuck _
  · cases x <;> exact steady_stuck _
theorem steady_movedNumber (t : TypeId) (x y : Value) : Steady P (movedNumber t x y) := by
  unfold movedNumber
  repeat' first
    | with_reducible exact steady_pure _
    | with_reducible exact steady_unsupported _
    | with_reducible exact steady_underlying _
    | with_reducible exact steady_unsafeAdd _ _ _
    | with_reducible exact steady_behindNumber _
    | with_reducible exact steady_asNumber _ _
    | split
    | with_reducible refine steady_bind ?_ fun _ => ?_
theorem steady_movedPointer (t : TypeId) (x y : Value) : Steady P (movedPointer t x y) := by
  unfold movedPointer
  repeat' first
    | with_reducible exact steady_pure _
    | with_reducible exact steady_unsupported _
    | with_reducible exact steady_numberAt _
    | with_reducible exact steady_unsafeAdd _ _ _
    | split
    | with_reducible refine steady_bind ?_ fun _ => ?_
theorem steady_twoPlaces (a b : Addr) : Steady P (Op.twoPlaces a b) := by
  unfold Op.twoPlaces
  repeat' first
    | with_reducible exact steady_pure _
    | with_reducible exact steady_unsupported _
    | with_reducible exact steady_program
    | with_reducible exact steady_byteOf _
    | split
    | with_reducible refine steady_bind ?_ fun _ => ?_
theorem steady_addrSub (k : IntKind) (a b : Addr) : Steady P (Op.addrSub k a b) := by
  unfold Op.addrSub
  exact steady_bind (steady_twoPlaces _ _) fun _ => steady_pure _
theorem steady_addrCmp (op : BinOp) (a b : Addr) : Steady P (Op.addrCmp op a b) := by
  unfold Op.addrCmp
  refine steady_bind (steady_twoPlaces _ _) fun _ => ?_
  dsimp only
  split <;> first | exact steady_pure _ | exact steady_unsupported _
theorem steady_addrMod (k : IntKind) (a : Addr) (n : Int) : Steady P (Op.addrMod k a n) := by
  unfold Op.addrMod
  refine steady_shape (fun w v w1 h => by simp [unsupported, Sem.run] at h) fun s => ?_
  obtain ⟨e, c⟩ := s
  dsimp only
  refine steady_bind (steady_typeInfo _) fun i => ?_
  split
  · exact steady_bind (steady_unsupported _) fun _ => steady_bind (steady_byteOf _) fun _ => steady_pure _
  · exact steady_bind (steady_byteOf _) fun _ => steady_pure _
theorem steady_eqGuardIn : ∀ (d : Nat) (t : TypeId) (x y : Value), Steady P (Op.eqGuardIn d t x y)
  | 0, _, _, _ => by unfold Op.eqGuardIn; exact steady_unsupported _
  | d + 1, t, x, y => by
    unfold Op.eqGuardIn
    refine steady_bind (steady_underlying _) fun ud => ?_
    split
    · exact steady_pure _
    · refine steady_bind ?_ fun s => ?_
      · rw [← Array.forIn_toList]
        refine steady_forIn_mem _ _ _ fun f hf r => ?_
        repeat' first
          | exact steady_pure _
          | exact steady_part _ _ _
          | exact steady_eqGuardIn d _ _ _
          | split
          | refine steady_bind ?_ fun _ => ?_
      · dsimp only
        split <;> exact steady_pure _
    · refine steady_bind (steady_sizeOf _) fun m => steady_bind ?_ fun s => ?_
      · rw [Std.Legacy.Range.forIn_eq_forIn_range']
        refine steady_forIn_mem _ _ _ fun f hf r => ?_
        repeat' first
          | exact steady_pure _
          | exact steady_part _ _ _
          | exact steady_eqGuardIn d _ _ _
          | split
          | refine steady_bind ?_ fun _ => ?_
      · dsimp only
        split <;> exact steady_pure _
    · exact steady_pure _
theorem steady_eqGuard (op : BinOp) (t : TypeId) (x y : Operand) (a b : Value) : Steady P (eqGuard op t x y a b) := by
  unfold eqGuard
  repeat' first
    | with_reducible exact steady_pure _
    | with_reducible exact steady_unsupported _
    | with_reducible exact steady_program
    | with_reducible exact steady_eqGuardIn _ _ _ _
    | split
    | with_reducible refine steady_bind ?_ fun _ => ?_
/-- what two values' comparison may be taken for -/
def eqV (P : Program) (t : TypeId) (x y : Value) : Prop := Steady P (Op.equal t x y)
theorem steady_binOp (op : BinOp) (t : TypeId) (x y : Value) (h : op = .eql ∨ op = .neq → Steady P (Op.equal t x y)) : Steady P (binOp op t x y) := by
  unfold binOp
  split
  all_goals first
    | exact steady_shift _ _ _ _ _
    | exact steady_stringOp _ _ _
    | exact steady_bind (h (.inl rfl)) fun _ => steady_pure _
    | exact steady_bind (h (.inr rfl)) fun _ => steady_pure _
    | exact steady_movedNumber _ _ _
    | exact steady_stuck _
    | exact steady_unsupported _
    | exact steady_bind (steady_behindNumber _) fun _ => steady_bind (steady_behindNumber _) fun _ => steady_addrSub _ _ _
    | exact steady_bind (steady_behindNumber _) fun _ => steady_bind (steady_behindNumber _) fun _ => steady_addrCmp _ _ _
    | exact steady_bind (steady_behindNumber _) fun _ => steady_addrMod _ _ _
    | (refine steady_bind (steady_underlying _) fun _ => ?_
       split <;> first | exact steady_movedPointer _ _ _ | exact steady_movedNumber _ _ _)
    | (refine steady_ite (steady_stuck _) ?_
       first
         | exact steady_complexOp _ _ _ _ _ _
         | (split <;> first | exact steady_intArith _ _ _ _ | exact steady_intDiv _ _ _ _ | exact steady_intBits _ _ _ _ | exact steady_intCmp _ _ _ | exact steady_floatArith _ _ _ _ | exact steady_floatCmp _ _ _ _))
    | skip
end
end Go.Proofs.YtediocpdpghbfaaDoor
namespace Go.Proofs.YtediocpdpghbfaaDoor
open Go Go.RowKit

section
variable {P : Program} {α β : Type}

def isNilV : Value → Bool
  | .pointer none | .nilIface | .map none | .slice none _ _ | .nilFunc | .chan none => true
  | _ => false
theorem steady_equal_nil (t : TypeId) (x y : Value) (h : isNilV x = true ∨ isNilV y = true) : Steady P (Op.equal t x y) := by
  unfold Op.equal
  rw [show Op.maxDepth = 9999 + 1 from rfl]
  generalize 9999 = d
  unfold Op.equalIn
  refine steady_bind (steady_underlying _) fun ud => ?_
  split
  all_goals first
    | exact steady_pure _
    | exact steady_stuck _
    | exact steady_unsupported _
    | exact steady_ite (steady_pure _) (steady_stuck _)
    | (simp [isNilV] at h; done)
    | skip
  · rename_i a b
    cases a <;> cases b <;> first | exact steady_pure _ | (simp [isNilV] at h; done)
theorem steady_arrayAt (t : TypeId) (x : Value) : Steady P (Instr.arrayAt t x) := by
  unfold Instr.arrayAt
  repeat' first
    | with_reducible exact steady_pure _
    | with_reducible exact steady_stuck _
    | with_reducible exact steady_panic _
    | with_reducible exact steady_underlying _
    | split
    | with_reducible refine steady_bind ?_ fun _ => ?_
def isNilO : Operand → Bool
  | .const v => isNilV v
  | _ => false
def quietOp (P : Program) : Op → Bool
  | .move _ | .assign _ | .pick .. | .load .. | .nilCheck _ | .unOp .. | .fieldAddr .. | .field .. | .indexAddr .. | .index .. | .slice .. | .extract .. | .makeInterface .. | .build .. | .sliceToArrayPointer .. => true
  | .binOp op t x y _ => match op with
    | .eql | .neq => eqT P 8 t || isNilO x || isNilO y
    | _ => true
  | .convert src dst _ => match P.underlying src, P.underlying dst with
    | some (.int _), some (.int _) | some (.int _), some .string | some .string, some .string | some (.slice _), some .string => true
    | _, _ => false
  | .call ⟨.builtin .len, _, _⟩ | .call ⟨.builtin .cap, _, _⟩ => true
  | _ => false

/-- a run that reads constants as they are -/
def Reads (ρ : Operand → Value) : Prop := ∀ v, ρ (.const v) = v
theorem reads_eval (a : Act) : Reads a.eval := fun _ => rfl
theorem steady_bytes (x : Value) : Steady P (Conv.bytesToString x) := by
  unfold Conv.bytesToString
  split
  · exact steady_pure _
  · refine steady_bind (steady_loadCellsFrom _ _ _ _) fun cs => steady_bind ?_ fun s => steady_pure _
    rw [← Array.forIn_toList]
    refine steady_forIn_mem _ _ _ fun c _ b => ?_
    split
    · exact steady_pure _
    · exact steady_stuck _
  · exact steady_stuck _
theorem steady_runes (x : Value) : Steady P (Conv.runesToString x) := by
  unfold Conv.runesToString
  split
  · exact steady_pure _
  · refine steady_bind (steady_loadCellsFrom _ _ _ _) fun cs => steady_bind ?_ fun s => steady_pure _
    rw [← Array.forIn_toList]
    refine steady_forIn_mem _ _ _ fun c _ b => ?_
    split
    · exact steady_pure _
    · exact steady_stuck _
  · exact steady_stuck _
theorem steady_floatToInt (s : FloatKind) (b : Nat) (k : IntKind) : Steady P (Conv.floatToInt s b k) := by
  unfold Conv.floatToInt
  dsimp only
  repeat' first
    | with_reducible exact steady_pure _
    | with_reducible exact steady_choose _
    | split
    | with_reducible refine steady_bind ?_ fun _ => ?_
theorem steady_convert (src dst : TypeId) (x : Value) (h : (match P.underlying src, P.underlying dst with
    | some (.int _), some (.int _) | some (.int _), some .string | some .string, some .string | some (.slice _), some .string => true
    | _, _ => false) = true) : Steady P (convert src dst x) := by
  unfold convert
  refine steady_underlying_bind fun s hs => steady_underlying_bind fun d hd => ?_
  rw [hs, hd] at h
  split
  all_goals first
    | exact steady_pure _
    | exact steady_stuck _
    | exact steady_unsupported _
    | exact steady_floatToInt _ _ _
    | (simp at h; done)
    | (unfold Conv.intToInt; exact steady_pure _)
    | (unfold Conv.intToString; exact steady_pure _)
    | skip
  · refine steady_bind (steady_underlying _) fun e => ?_
    split <;> first | exact steady_bytes _ | exact steady_runes _ | exact steady_stuck _
theorem steady_len (ts : Array TypeId) (t : TypeId) (xs : Array Value) : Steady P (Builtin.len_ ts t xs) := by
  unfold Builtin.len_
  repeat' first
    | with_reducible exact steady_pure _
    | with_reducible exact steady_stuck _
    | with_reducible exact steady_underlying _
    | with_reducible exact steady_getObj _
    | split
    | with_reducible refine steady_bind ?_ fun _ => ?_
theorem steady_cap (ts : Array TypeId) (t : TypeId) (xs : Array Value) : Steady P (Builtin.cap_ ts t xs) := by
  unfold Builtin.cap_
  repeat' first
    | with_reducible exact steady_pure _
    | with_reducible exact steady_stuck _
    | with_reducible exact steady_underlying _
    | with_reducible exact steady_getObj _
    | split
    | with_reducible refine steady_bind ?_ fun _ => ?_
theorem steady_value {x : Sem Value} (h : Steady P x) : Steady P (x >>= fun v => (pure (.value v) : Sem Next)) := steady_bind h fun _ => steady_pure _
/-- what a quiet operation yields -/
theorem steady_exec {ρ : Operand → Value} (hρ : Reads ρ) (o : Oper) (h : quietOp P o.op = true) : Steady P (execOp ρ o) := by
  obtain ⟨dst, op, type, pos, after, guard⟩ := o
  cases op <;> (try (simp [quietOp] at h; done)) <;> simp only [quietOp] at h <;> unfold execOp <;> dsimp only
  case move x => exact steady_pure _
  case assign x => exact steady_pure _
  case pick c a b => exact steady_bind (steady_asBool _) fun _ => by split <;> exact steady_pure _
  case build t ps => exact steady_value (steady_build _ _)
  case load t a => exact steady_value (steady_loadAt _ _)
  case unOp => exact steady_value (steady_unary _ _)
  case fieldAddr => exact steady_value (steady_fieldAt _ _ _)
  case field => exact steady_value (steady_field _ _ _)
  case indexAddr => exact steady_value (steady_indexAt _ _ _)
  case index => exact steady_value (steady_index _ _ _)
  case slice => exact steady_value (steady_sliceAt _ _ _ _ _)
  case extract => exact steady_value (steady_extract _ _)
  case sliceToArrayPointer => exact steady_value (steady_arrayAt _ _)
  case makeInterface => exact steady_value (steady_makeInterface _ _)
  case nilCheck x =>
    split
    all_goals first
      | exact steady_panic _
      | (split
         all_goals first
           | exact steady_panic _
           | exact steady_pure _
           | (refine steady_bind steady_program fun p => steady_bind (steady_nilAhead _ _ _ _) fun r => ?_
              split
              · exact steady_bind (steady_unsupported _) fun _ => steady_pure _
              · exact steady_pure _))
      | exact steady_pure _
  case binOp op t x y u =>
    refine steady_bind (steady_bind (steady_eqGuard _ _ _ _ _ _) fun _ => steady_binOp _ _ _ _ ?_) fun _ => steady_pure _
    intro hop
    have h' : (eqT P 8 t || isNilO x || isNilO y) = true := by
      rcases hop with rfl | rfl <;> exact h
    rw [Bool.or_eq_true, Bool.or_eq_true] at h'
    rcases h' with (h1 | h1) | h1
    · exact steady_equalIn 8 _ _ _ _ h1
    · refine steady_equal_nil _ _ _ (.inl ?_)
      cases x <;> simp [isNilO] at h1
      rw [hρ]; exact h1
    · refine steady_equal_nil _ _ _ (.inr ?_)
      cases y <;> simp [isNilO] at h1
      rw [hρ]; exact h1
  case convert => exact steady_value (steady_convert _ _ _ h)
  case call c =>
    obtain ⟨callee, args, ts⟩ := c
    cases callee <;> (try (simp at h; done))
    rename_i b
    cases b <;> (try (simp at h; done))
    · exact steady_value (steady_cap _ _ _)
    · exact steady_value (steady_len _ _ _)
end
end Go.Proofs.YtediocpdpghbfaaDoor
namespace Go.Proofs.YtediocpdpghbfaaDoor
open Go Go.RowKit

section
variable {P : Program} {ops : Array Oper} {Q : Exit → Act → World → Prop} {α β : Type}

/-- what the run yields is a value -/
def Vals (P : Program) (x : Sem Next) : Prop := ∀ w n w1, x.run P w = .ok n w1 → ∃ v, n = .value v
theorem vals_pure (v : Value) : Vals P (pure (.value v)) := by
  intro w n w1 h
  rw [Sem.run_pure] at h
  injection h with h _
  exact ⟨v, h.symm⟩
theorem vals_bind {x : Sem α} {f : α → Sem Next} (h : ∀ a, Vals P (f a)) : Vals P (x >>= f) := by
  intro w n w1 e
  rw [Sem.run_bind] at e
  cases hr : x.run P w with
  | halt y w' => rw [hr] at e; simp at e
  | ok u w' => rw [hr] at e; exact h u w' n w1 e
theorem vals_panic (e : RuntimeError) : Vals P (runtimePanic e) := fun w n w1 h => absurd h (never_panic w n w1)
theorem vals_value {x : Sem Value} : Vals P (x >>= fun v => (pure (.value v) : Sem Next)) := vals_bind fun _ => vals_pure _
theorem vals_exec {ρ : Operand → Value} (o : Oper) (h : quietOp P o.op = true) : Vals P (execOp ρ o) := by
  obtain ⟨dst, op, type, pos, after, guard⟩ := o
  cases op <;> (try (simp [quietOp] at h; done)) <;> simp only [quietOp] at h <;> unfold execOp <;> dsimp only
  case move x => exact vals_pure _
  case assign x => exact vals_pure _
  case pick c a b => exact vals_bind fun _ => vals_pure _
  case nilCheck x =>
    split
    all_goals first
      | exact vals_panic _
      | (split
         all_goals first
           | exact vals_panic _
           | exact vals_pure _
           | (refine vals_bind fun p => vals_bind fun r => ?_
              split
              · exact vals_bind fun _ => vals_pure _
              · exact vals_pure _))
      | exact vals_pure _
  case call c =>
    obtain ⟨callee, args, ts⟩ := c
    cases callee <;> (try (simp at h; done))
    rename_i b
    cases b <;> (try (simp at h; done))
    · exact vals_value (x := Builtin.cap_ _ _ _)
    · exact vals_value (x := Builtin.len_ _ _ _)
  all_goals exact vals_value

/-- one order of a region: (number, does it only look?) -/
def wpIx (P : Program) (ops : Array Oper) (Q : Exit → Act → World → Prop) : List (Nat × Bool) → Act → World → Prop
  | [], a, w => Q .normal a w
  | (i, true) :: rest, a, w => ∃ o v, ops[i]? = some o ∧ YieldsIf P ops (Below w.heap.size w) o v a ∧ wpIx P ops Q rest (a.put o.dst v) w
  | (i, false) :: rest, a, w => wpOp P ops Q i (fun a' w' => Below w.heap.size w w' ∧ wpIx P ops Q rest a' w') a w

def ixB (ops : Array Oper) : List (Nat × Bool) → Array Bool → Bool
  | [], listed => (Region.ready .any ops listed).isEmpty
  | (i, true) :: rest, listed => (Region.ready .any ops listed).contains i && Region.free .any ops listed i && ixB ops rest (listed.setIfInBounds i true)
  | (i, false) :: rest, listed => (Region.ready .any ops listed == [i]) && ixB ops rest (listed.setIfInBounds i true)

theorem wpAnyH_weaken {md : Region.Mode} {S S' : World → Prop} (hS : ∀ w, S' w → S w) : ∀ (fuel : Nat) (listed : Array Bool) (a : Act) (w : World),
    wpAnyH P md ops Q S' fuel listed a w → wpAnyH P md ops Q S fuel listed a w
  | 0, _, _, _, h => h
  | fuel + 1, _, _, _, h => ⟨h.1, fun i hi => wpOp_mono (fun a' w' h' => ⟨hS _ h'.1, wpAnyH_weaken hS fuel _ a' w' h'.2⟩) (h.2 i hi)⟩

theorem any_of_ix (hQ : ∀ c (a : Act) d v w, Q (.panic c) (a.put d v) w → Q (.panic c) a w) (hs : Region.noSelect ops = true) : ∀ (s : List (Nat × Bool)) (listed : Array Bool) (a : Act) (w : World),
    ixB ops s listed = true → wpIx P ops Q s a w → wpAnyH P .any ops Q (Below w.heap.size w) s.length listed a w
  | [], listed, a, w, hB, h => wpAnyH_done (by simpa [ixB] using hB) h _
  | (i, true) :: rest, listed, a, w, hB, h => by
    obtain ⟨o, v, ho, hy, hr⟩ := h
    simp only [ixB, Bool.and_eq_true] at hB
    exact wpAnyH_take ho hs hB.1.2 hB.1.1 (fun c a w h => hQ c a _ _ w h) hy (Below.refl _ _) (any_of_ix hQ hs rest _ _ w hB.2 hr)
  | (i, false) :: rest, listed, a, w, hB, h => by
    simp only [ixB, Bool.and_eq_true, beq_iff_eq] at hB
    refine wpAnyH_all hB.1 (by simp) fun j hj => ?_
    obtain rfl : j = i := by simpa using hj
    refine wpOp_mono (fun a' w' h' => ⟨h'.1, ?_⟩) h
    exact wpAnyH_weaken (fun w'' hb => h'.1.trans (hb.mono h'.1.size)) _ _ _ _ (any_of_ix hQ hs rest _ a' w' hB.2 h'.2)

/-- every world that a list of looks can come to -/
theorem list_ends {K : Exit → Act → World → Prop} (hN : ∀ e a w, K e a w → e = .normal) : ∀ (l : List Oper) (a : Act) (w : World), (∀ o ∈ l, quietOp P o.op = true) →
    wpList P ops K l a w → ∃ a' w', (w' = w ∨ Grew w w') ∧ K .normal a' w'
  | [], a, w, _, h => ⟨a, w, .inl rfl, h⟩
  | o :: l, a, w, hq, h => by
    unfold wpList at h
    split at h
    · rcases h with h | ⟨_, a', w', h⟩
      · unfold Oper.wp at h
        cases hr : (execOp a.eval o).run P w with
        | halt y w' =>
          rw [hr] at h
          cases y <;> simp only [Oper.upon] at h
          exact absurd (hN _ _ _ h) (by simp)
        | ok n w1 =>
          rw [hr] at h
          obtain ⟨v, rfl⟩ := vals_exec o (hq o (List.mem_cons_self ..)) w n w1 hr
          simp only [Oper.upon] at h
          obtain ⟨a', w', hw', hK⟩ := list_ends hN l _ _ (fun o ho => hq o (List.mem_cons_of_mem _ ho)) h
          refine ⟨a', w', ?_, hK⟩
          rcases steady_exec (reads_eval a) o (hq o (List.mem_cons_self ..)) w _ w1 hr with ⟨rfl, _⟩ | hg
          · exact hw'
          · rcases hw' with rfl | hg2
            · exact .inr hg
            · exact .inr (hg.trans hg2)
      · exact absurd (hN _ _ _ h) (by simp)
    · exact list_ends hN l _ _ (fun o ho => hq o (List.mem_cons_of_mem _ ho)) h

theorem ix_of_list {X : Act → Prop} {rest : List (Nat × Bool)} : ∀ (l : List Oper) (is : List Nat) (a : Act) (w : World), (∀ o ∈ l, quietOp P o.op = true) → is.map (fun i => ops[i]?) = l.map some →
    wpList P ops (fun e a' w' => e = .normal ∧ w' = w ∧ X a') l a w → (∀ a', X a' → wpIx P ops Q rest a' w) → wpIx P ops Q (is.map (fun i => (i, true)) ++ rest) a w
  | [], is, a, w, _, hi, h, hr => by
    obtain rfl : is = [] := by simpa using hi
    exact hr a h.2.2
  | o :: l, [], a, w, _, hi, h, hr => by simp at hi
  | o :: l, i :: is, a, w, hq, hi, h, hr => by
    simp only [List.map_cons, List.cons.injEq] at hi
    unfold wpList at h
    simp only [List.map_cons, List.cons_append, wpIx]
    have hqo := hq o (List.mem_cons_self ..)
    have hql : ∀ o ∈ l, quietOp P o.op = true := fun o ho => hq o (List.mem_cons_of_mem _ ho)
    split at h
    · rename_i hw
      rcases h with h | ⟨_, a', w', h⟩
      · unfold Oper.wp at h
        cases hr' : (execOp a.eval o).run P w with
        | halt y w' =>
          rw [hr'] at h
          cases y <;> simp only [Oper.upon] at h
          exact absurd h.1 (by simp)
        | ok n w1 =>
          rw [hr'] at h
          obtain ⟨v, rfl⟩ := vals_exec o hqo w n w1 hr'
          simp only [Oper.upon] at h
          rcases steady_exec (reads_eval a) o hqo w _ w1 hr' with ⟨rfl, hl⟩ | hg
          · exact ⟨o, v, hi.1, .inl ⟨hw, fun w' hb => hl w' hb⟩, ix_of_list l is _ w1 hql hi.2 h hr⟩
          · obtain ⟨a', w', hw', hK⟩ := list_ends (fun e a w hK => hK.1) l _ _ hql h
            exfalso
            rcases hw' with rfl | hg2
            · rw [hK.2.1] at hg; exact hg.irrefl
            · rw [hK.2.1] at hg2; exact (hg.trans hg2).irrefl
      · exact absurd h.1 (by simp)
    · rename_i hw
      exact ⟨o, undef, hi.1, .inr ⟨by simpa using hw, rfl⟩, ix_of_list l is _ w hql hi.2 h hr⟩

theorem wp_both {o : Oper} {a : Act} {w : World} {K K' : Act → World → Prop} {Q' : Exit → Act → World → Prop} (h : ∀ a w, K a w → K' a w) (hq : ∀ e a w, ¬ Q' e a w)
    (hh : o.wp P a w K Q') : o.wp P a w K' Q := by
  unfold Oper.wp at *
  generalize (execOp a.eval o).run P w = r at *
  cases r with
  | ok n w' =>
    cases n <;> simp only [Oper.upon] at hh ⊢ <;>
      first
        | exact h _ _ hh
        | (refine Calls.mono hh fun e w'' he => ?_
           cases e with
           | returned u => exact h _ _ he
           | panicked c => exact absurd he (hq _ _ _)
           | outgrown => obtain ⟨a', w3, h3⟩ := he; exact absurd h3 (hq _ _ _))
        | exact Rows.mono hh (fun _ _ he => h _ _ he)
  | halt x w' => cases x <;> simp only [Oper.upon] at hh ⊢ <;> exact absurd hh (hq _ _ _)

def Seg (P : Program) (ops : Array Oper) (l : List Oper) (a : Act) (w : World) (C : Act → World → Prop) : Prop :=
  ∀ K : Exit → Act → World → Prop, Hid (∀ a' w', C a' w' → K .normal a' w') → wpList P ops K l a w

theorem op_of_seg {C : Act → World → Prop} {i : Nat} {o : Oper} {a : Act} {w : World} (hi : ops[i]? = some o) (h : Seg P ops [o] a w C) : wpOp P ops Q i C a w := by
  have h1 := h (fun e a w => e = .normal ∧ C a w) (Lib.hid fun a' w' hc => ⟨rfl, hc⟩)
  unfold wpList at h1
  unfold wpOp
  simp only [hi]
  split at h1
  · rename_i hw
    simp only [hw, if_true]
    rcases h1 with h1 | ⟨_, a', w', h1⟩
    · left
      unfold Oper.wp at *
      generalize (execOp a.eval o).run P w = r at *
      cases r with
      | ok n w' =>
        cases n <;> simp only [Oper.upon, wpList] at h1 ⊢ <;>
          first
            | exact h1.2
            | (refine Calls.mono h1 fun e w'' he => ?_
               cases e with
               | returned u => exact he.2
               | panicked c => exact absurd he.1 (by simp)
               | outgrown => obtain ⟨a', w3, h3⟩ := he; exact absurd h3.1 (by simp))
            | exact Rows.mono h1 (fun _ _ he => he.2)
      | halt x w' => cases x <;> simp only [Oper.upon] at h1 ⊢ <;> first | exact h1 | exact absurd h1.1 (by simp)
    · exact absurd h1.1 (by simp)
  · rename_i hw
    simp only [hw, Bool.false_eq_true, if_false]
    exact h1.2

def pickC (c : Nat) : List Nat → List Oper → List Oper
  | k :: ks, o :: os => if k = c then o :: pickC c ks os else pickC c ks os
  | _, _ => []
def idxC (c : Nat) : List Nat → Nat → List Nat
  | k :: ks, i => if k = c then i :: idxC c ks (i + 1) else idxC c ks (i + 1)
  | [], _ => []
theorem pick_idx (c : Nat) : ∀ (cls : List Nat) (l : List Oper) (k : Nat), cls.length = l.length → (∀ j, l[j]? = ops[k + j]?) → (idxC c cls k).map (fun i => ops[i]?) = (pickC c cls l).map some
  | [], [], _, _, _ => rfl
  | [], _ :: _, _, h, _ => by simp at h
  | _ :: _, [], _, h, _ => by simp at h
  | x :: xs, o :: l, k, h, hl => by
    have h0 : ops[k]? = some o := by simpa using (hl 0).symm
    have ih := pick_idx c xs l (k + 1) (by simpa using h) (fun j => by have := hl (j + 1); simpa [Nat.add_assoc, Nat.add_comm 1 j] using this)
    simp only [idxC, pickC]
    split
    · simp only [List.map_cons, h0, ih]
    · exact ih

/-- the segments of a region from class c on: n acts are still to come -/
def Segs (P : Program) (ops : Array Oper) (Q : Exit → Act → World → Prop) (cls : List Nat) (l : List Oper) : Nat → Nat → Act → World → Prop
  | 0, c, a, w => Seg P ops (pickC c cls l) a w (fun a' w' => w' = w ∧ Q .normal a' w)
  | n + 1, c, a, w => Seg P ops (pickC c cls l) a w (fun a' w' => w' = w ∧ Seg P ops (pickC (c + 1) cls l) a' w (fun a'' w'' => Below w.heap.size w w'' ∧ Segs P ops Q cls l n (c + 2) a'' w''))

def planB (P : Program) (cls : List Nat) (l : List Oper) : Nat → Nat → Bool
  | 0, c => (pickC c cls l).all fun o => quietOp P o.op
  | n + 1, c => ((pickC c cls l).all fun o => quietOp P o.op) && (pickC (c + 1) cls l).length == 1 && planB P cls l n (c + 2)
def plan (cls : List Nat) : Nat → Nat → List (Nat × Bool)
  | 0, c => (idxC c cls 0).map fun i => (i, true)
  | n + 1, c => (idxC c cls 0).map (fun i => (i, true)) ++ ((idxC (c + 1) cls 0).map (fun i => (i, false)) ++ plan cls n (c + 2))
theorem seg_quiet {X : Act → Prop} {l : List Oper} {is : List Nat} {rest : List (Nat × Bool)} {a : Act} {w : World} (hq : (l.all fun o => quietOp P o.op) = true) (hi : is.map (fun i => ops[i]?) = l.map some)
    (h : Seg P ops l a w (fun a' w' => w' = w ∧ X a')) (hr : ∀ a', X a' → wpIx P ops Q rest a' w) : wpIx P ops Q (is.map (fun i => (i, true)) ++ rest) a w :=
  ix_of_list l is a w (List.all_eq_true.1 hq) hi (h (fun e a' w' => e = .normal ∧ w' = w ∧ X a') (Lib.hid fun a' w' hc => ⟨rfl, hc⟩)) hr
theorem ix_of_segs {cls : List Nat} {l : List Oper} (hlen : cls.length = l.length) : ∀ (n c : Nat) (a : Act) (w : World), planB P cls l n c = true → Segs P l.toArray Q cls l n c a w → wpIx P l.toArray Q (plan cls n c) a w
  | 0, c, a, w, hB, h => by
    have := seg_quiet (Q := Q) (rest := []) (X := fun a' => Q .normal a' w) (by simpa [planB] using hB) (pick_idx c cls l 0 hlen (by simp)) h (fun a' h => h)
    simpa [plan] using this
  | n + 1, c, a, w, hB, h => by
    simp only [planB, Bool.and_eq_true, beq_iff_eq] at hB
    refine seg_quiet hB.1.1 (pick_idx c cls l 0 hlen (by simp)) h fun a' h' => ?_
    have hp := pick_idx (ops := l.toArray) (c + 1) cls l 0 hlen (by simp)
    obtain ⟨o, ho⟩ := List.length_eq_one_iff.1 hB.1.2
    rw [ho] at hp h'
    cases hx : idxC (c + 1) cls 0 with
    | nil => rw [hx] at hp; simp at hp
    | cons i is =>
      rw [hx] at hp
      simp only [List.map_cons, List.map_nil, List.cons.injEq, List.map_eq_nil_iff] at hp
      obtain ⟨hi, rfl⟩ := hp
      simp only [List.map_cons, List.map_nil, List.cons_append, List.nil_append, wpIx]
      exact wpOp_mono (fun a2 w2 h2 => ⟨h2.1, ix_of_segs hlen n (c + 2) a2 w2 hB.2 h2.2⟩) (op_of_seg hi h')

def regB (P : Program) (cls : List Nat) (l : List Oper) (n : Nat) : Bool :=
  cls.length == l.length && Region.noSelect l.toArray && planB P cls l n 0 && (plan cls n 0).length == l.length && ixB l.toArray (plan cls n 0) (Array.replicate l.length false)
/-- THE REGION -/
theorem wp_region_segs {l : List Oper} (cls : List Nat) (n : Nat) {id : Nat} {a : Act} {w : World} (hm : P.follows .mixedOrders = true) (hB : regB P cls l n = true)
    (hQ : ∀ c (a : Act) d v w, Q (.panic c) (a.put d v) w → Q (.panic c) a w) (h : Segs P l.toArray Q cls l n 0 a w.drew) : (Code.region id l.toArray true).wp P Q a w := by
  simp only [regB, Bool.and_eq_true, beq_iff_eq] at hB
  obtain ⟨⟨⟨⟨h1, h2⟩, h3⟩, h4⟩, h5⟩ := hB
  have := any_of_ix hQ h2 (plan cls n 0) (Array.replicate l.length false) a w.drew h5 (ix_of_segs h1 n 0 a w.drew h3 h)
  rw [h4] at this
  exact wp_region_held hm (by simpa using this)
/-! the moves of the walk -/
theorem segs_go {cls : List Nat} {l : List Oper} {n c : Nat} {a : Act} {w : World}
    (h : ∀ K : Exit → Act → World → Prop, Hid (∀ a', Seg P ops (pickC (c + 1) cls l) a' w (fun a'' w'' => Below w.heap.size w w'' ∧ Segs P ops Q cls l n (c + 2) a'' w'') → K .normal a' w) → wpList P ops K (pickC c cls l) a w) :
    Segs P ops Q cls l (n + 1) c a w := fun K hK => h K (Lib.hid fun a' hs => hK.out a' w ⟨rfl, hs⟩)
theorem seg_act {cls : List Nat} {l l1 : List Oper} {n c : Nat} {a : Act} {w : World}
    (h : ∀ K : Exit → Act → World → Prop, Hid (∀ a'' w'', Below w.heap.size w w'' → Segs P ops Q cls l n c a'' w'' → K .normal a'' w'') → wpList P ops K l1 a w) :
    Seg P ops l1 a w (fun a'' w'' => Below w.heap.size w w'' ∧ Segs P ops Q cls l n c a'' w'') := fun K hK => h K (Lib.hid fun a' w' hb hs => hK.out a' w' ⟨hb, hs⟩)
theorem segs_end {cls : List Nat} {l : List Oper} {c : Nat} {a : Act} {w : World}
    (h : ∀ K : Exit → Act → World → Prop, Hid (∀ a', Q .normal a' w → K .normal a' w) → wpList P ops K (pickC c cls l) a w) :
    Segs P ops Q cls l 0 c a w := fun K hK => h K (Lib.hid fun a' hs => hK.out a' w ⟨rfl, hs⟩)
end
end Go.Proofs.YtediocpdpghbfaaDoor
namespace Go.Proofs.YtediocpdpghbfaaDoor
open Go Go.RowKit

section
variable {P : Program} {ops : Array Oper} {Q : Exit → Act → World → Prop} {S : World → Prop}

/-- whom an operation waits for, as a number's bits: acc has the numbers of the operations before it -/
def ancMask (acc : List Nat) (o : Oper) : Nat := o.after.toList.foldl (fun m e => if Region.binds .any e then m ||| (2 ^ e.on ||| acc.getD e.on 0) else m) 0
def ancGo : List Oper → List Nat → List Nat
  | [], acc => acc
  | o :: l, acc => ancGo l (acc ++ [ancMask acc o])
def ancs (ops : Array Oper) : List Nat := ancGo ops.toList []
theorem fold_bits (acc : List Nat) (i : Nat) : ∀ (l : List Edge) (m : Nat), (l.foldl (fun m e => if Region.binds .any e then m ||| (2 ^ e.on ||| acc.getD e.on 0) else m) m).testBit i = true →
    m.testBit i = true ∨ ∃ e ∈ l, Region.binds .any e = true ∧ (e.on = i ∨ (acc.getD e.on 0).testBit i = true)
  | [], m, h => .inl h
  | e :: l, m, h => by
    simp only [List.foldl_cons] at h
    rcases fold_bits acc i l _ h with h | ⟨e', he', hb⟩
    · split at h
      · rename_i hb
        rw [Nat.testBit_or, Nat.testBit_or, Bool.or_eq_true, Bool.or_eq_true, Nat.testBit_two_pow] at h
        rcases h with h | h | h
        · exact .inl h
        · exact .inr ⟨e, List.mem_cons_self .., hb, .inl (by simpa using h)⟩
        · exact .inr ⟨e, List.mem_cons_self .., hb, .inr h⟩
      · exact .inl h
    · exact .inr ⟨e', List.mem_cons_of_mem _ he', hb⟩
def Closed (ops : Array Oper) (listed : Array Bool) : Prop := ∀ (j : Nat) (o : Oper), ops[j]? = some o → listed.getD j false = true → ∀ e ∈ o.after, Region.binds .any e = true → listed.getD e.on false = true
/-- the numbers of acc speak of the operations before number k, and say what is so -/
def AncOk (ops : Array Oper) (acc : List Nat) : Prop := ∀ (j : Nat) (o : Oper), ops[j]? = some o → ∀ i, (acc.getD j 0).testBit i = true →
  ∀ listed, Closed ops listed → (∀ e ∈ o.after, Region.binds .any e = true → listed.getD e.on false = true) → listed.getD i false = true
theorem anc_go : ∀ (l : List Oper) (acc : List Nat), (∀ j, l[j]? = ops[acc.length + j]?) → AncOk ops acc → AncOk ops (ancGo l acc)
  | [], acc, _, h => h
  | o :: l, acc, hl, h => by
    unfold ancGo
    have h0 : ops[acc.length]? = some o := by simpa using (hl 0).symm
    refine anc_go l _ (fun j => by have := hl (j + 1); simp only [List.length_append, List.length_cons, List.length_nil]; simpa [Nat.add_assoc, Nat.add_comm 1 j] using this) ?_
    intro j oj hj i hb listed hc hall
    rcases Nat.lt_trichotomy j acc.length with hlt | he | hgt
    · refine h j oj hj i ?_ listed hc hall
      rwa [List.getD_eq_getElem?_getD, List.getElem?_append_left hlt, ← List.getD_eq_getElem?_getD] at hb
    · subst he
      rw [h0] at hj
      obtain rfl := Option.some.inj hj
      simp only [List.getD_eq_getElem?_getD, List.getElem?_append_right (Nat.le_refl _), Nat.sub_self, List.getElem?_cons_zero, Option.getD_some] at hb
      rcases fold_bits acc i _ 0 hb with h1 | ⟨e, he, hbd, h1 | h1⟩
      · simp at h1
      · subst h1; exact hall e (by simpa using he) hbd
      · have hon := hall e (by simpa using he) hbd
        cases hoe : ops[e.on]? with
        | none =>
          exfalso
          have : acc.length ≤ e.on := by
            have := Array.getElem?_eq_none_iff.1 hoe
            have hk : acc.length < ops.size := (Array.getElem?_eq_some_iff.1 h0).1
            omega
          rw [List.getD_eq_getElem?_getD, List.getElem?_eq_none this] at h1
          simp at h1
        | some oe => exact h e.on oe hoe i h1 listed hc (hc e.on oe hoe hon)
    · rw [List.getD_eq_getElem?_getD, List.getElem?_eq_none (by simp; omega)] at hb
      simp at hb
theorem ancs_ok : AncOk ops (ancs ops) := anc_go ops.toList [] (by simp) (fun j o _ i h => by simp at h)

/-- operation j waits, through others too, for everything that has come up -/
def barrier (ops : Array Oper) (j : Nat) (listed : Array Bool) : Bool :=
  (List.range ops.size).all fun i => !listed.getD i false || ((ancs ops).getD j 0).testBit i

theorem closed_set {j : Nat} {listed : Array Bool} (hc : Closed ops listed) (hj : j ∈ Region.ready .any ops listed) : Closed ops (listed.setIfInBounds j true) := by
  obtain ⟨_, oj, hoj, hall⟩ := mem_ready.1 hj
  intro k o ho hk e he hb
  by_cases hkj : j = k
  · subst hkj
    rw [hoj] at ho
    obtain rfl := Option.some.inj ho
    exact getD_set_true (hall e he hb)
  · rw [getD_set_ne false hkj] at hk
    exact getD_set_true (hc k o ho hk e he hb)
def wpX (P : Program) (ops : Array Oper) (Q : Exit → Act → World → Prop) (S : World → Prop) : Nat → Array Bool → Act → World → Prop
  | 0, listed, a, w => Region.ready .any ops listed = [] ∧ Q .normal a w
  | fuel + 1, listed, a, w =>
    (Region.ready .any ops listed = [] → Q .normal a w) ∧
    ∀ i ∈ Region.ready .any ops listed, wpOp P ops Q i (fun a' w' => if barrier ops i listed = true then wpAny P .any ops Q fuel (listed.setIfInBounds i true) a' w' else S w' ∧ wpX P ops Q S fuel (listed.setIfInBounds i true) a' w') a w

theorem any_of_x : ∀ (fuel : Nat) (listed : Array Bool) (a : Act) (w : World), wpX P ops Q S fuel listed a w → wpAny P .any ops Q fuel listed a w
  | 0, _, _, _, h => h
  | fuel + 1, _, _, _, h => ⟨h.1, fun i hi => wpOp_mono (fun a' w' h' => by
      split at h'
      · exact h'
      · exact any_of_x fuel _ a' w' h'.2) (h.2 i hi)⟩
theorem wpX_weaken {S' : World → Prop} (hS : ∀ w, S' w → S w) : ∀ (fuel : Nat) (listed : Array Bool) (a : Act) (w : World), wpX P ops Q S' fuel listed a w → wpX P ops Q S fuel listed a w
  | 0, _, _, _, h => h
  | fuel + 1, _, _, _, h => ⟨h.1, fun i hi => wpOp_mono (fun a' w' h' => by
      split at h'
      · rw [if_pos ‹_›]; exact h'
      · rw [if_neg ‹_›]; exact ⟨hS _ h'.1, wpX_weaken hS fuel _ a' w' h'.2⟩) (h.2 i hi)⟩

/-- what floats over j is not waited for by j -/
theorem no_barrier {i j : Nat} {listed : Array Bool} (hc : Closed ops listed) (hi : i ∈ Region.ready .any ops listed) (hj : j ∈ Region.ready .any ops listed) : barrier ops j (listed.setIfInBounds i true) = false := by
  obtain ⟨hiu, oi, hoi, _⟩ := mem_ready.1 hi
  obtain ⟨hju, oj, hoj, hall⟩ := mem_ready.1 hj
  have hin : i < ops.size := (Array.getElem?_eq_some_iff.1 hoi).1
  have hil : i < listed.size := by
    rcases Nat.lt_or_ge i listed.size with h | h
    · exact h
    · simp [Array.getElem?_eq_none h] at hiu
  have hl : (listed.setIfInBounds i true).getD i false = true := by simp [hil]
  have hno : ((ancs ops).getD j 0).testBit i = false := by
    rw [Bool.eq_false_iff]
    intro h
    have := ancs_ok j oj hoj i h listed hc hall
    simp [hil] at hiu this
    rw [hiu] at this
    cases this
  unfold barrier
  rw [Bool.eq_false_iff]
  intro h
  have h1 := List.all_eq_true.1 h i (List.mem_range.2 hin)
  rw [hl, hno] at h1
  cases h1

theorem wpX_first {i : Nat} {oi : Oper} {v : Value} (hi : ops[i]? = some oi) (hsel : ∀ (j : Nat) (o : Oper) cs b, ops[j]? = some o → o.op ≠ .select cs b)
    (hQ : ∀ c a w, Q (.panic c) (a.put oi.dst v) w → Q (.panic c) a w) :
    ∀ (fuel : Nat) (listed : Array Bool) (a : Act) (w : World), Closed ops listed →
      (∀ j oj, ops[j]? = some oj → j ≠ i → listed.getD j true = false → (∀ e ∈ oj.after, Region.binds .any e = true → e.on ≠ i) → oi.apart ops oj = true) →
      i ∈ Region.ready .any ops listed → YieldsIf P ops S oi v a → S w →
      wpX P ops Q S fuel (listed.setIfInBounds i true) (a.put oi.dst v) w → wpX P ops Q S (fuel + 1) listed a w
  | 0, listed, a, w, _, _, hr, hy, hS, H => by
    refine ⟨fun h => (by rw [h] at hr; cases hr), fun j hj => ?_⟩
    by_cases hji : j = i
    · subst hji
      refine hy.wpOp hi hS ?_
      split
      · exact any_of_x _ _ _ _ H
      · exact ⟨hS, H⟩
    · have := ready_mono hj hji
      rw [H.1] at this
      cases this
  | fuel + 1, listed, a, w, hc, hfree, hr, hy, hS, H => by
    refine ⟨fun h => (by rw [h] at hr; cases hr), fun j hj => ?_⟩
    by_cases hji : j = i
    · subst hji
      refine hy.wpOp hi hS ?_
      split
      · exact any_of_x _ _ _ _ H
      · exact ⟨hS, H⟩
    have h1 := H.2 j (ready_mono hj hji)
    obtain ⟨hjun, oj, hoj, hall⟩ := mem_ready.1 hj
    have hnot : ∀ e ∈ oj.after, Region.binds .any e = true → e.on ≠ i := fun e he hb heq => by
      have h2 := hall e he hb
      have h0 := (mem_ready.1 hr).1
      rw [heq] at h2
      rcases Nat.lt_or_ge i listed.size with h' | h'
      · simp [h'] at h0 h2; rw [h0] at h2; cases h2
      · simp [Array.getElem?_eq_none h'] at h2
    have hnb := no_barrier hc hr hj
    simp only [hnb, Bool.false_eq_true, if_false] at h1
    have h2 := wpOp_putIf hoj (hfree j oj hoj hji hjun hnot) (fun cs b => hsel i oi cs b hi) (fun cs b => hsel j oj cs b hoj) hQ hy h1
    have hfree' : ∀ k ok, ops[k]? = some ok → k ≠ i → (listed.setIfInBounds j true).getD k true = false →
        (∀ e ∈ ok.after, Region.binds .any e = true → e.on ≠ i) → oi.apart ops ok = true := fun k ok hk hki hun hno => by
      refine hfree k ok hk hki ?_ hno
      by_cases hjk : j = k
      · subst hjk; exact hjun
      · rw [getD_set_ne true hjk] at hun; exact hun
    refine wpOp_mono (fun a' w' h3 => ?_) h2
    have hrec : wpX P ops Q S (fuel + 1) (listed.setIfInBounds j true) a' w' := by
      refine wpX_first hi hsel hQ fuel (listed.setIfInBounds j true) a' w' (closed_set hc hj) hfree' (ready_mono hr (Ne.symm hji)) h3.1 h3.2.1 ?_
      rw [Array.setIfInBounds_comm _ _ hji]
      exact h3.2.2
    split
    · exact any_of_x _ _ _ _ hrec
    · exact ⟨h3.2.1, hrec⟩

/-- one order of a region: (number, 0 it looks | 1 it acts | 2 it acts behind everything) -/
def wpIy (P : Program) (ops : Array Oper) (Q : Exit → Act → World → Prop) : List (Nat × Nat) → Act → World → Prop
  | [], a, w => Q .normal a w
  | (i, 0) :: rest, a, w => ∃ o v, ops[i]? = some o ∧ YieldsIf P ops (Below w.heap.size w) o v a ∧ wpIy P ops Q rest (a.put o.dst v) w
  | (i, 1) :: rest, a, w => wpOp P ops Q i (fun a' w' => Below w.heap.size w w' ∧ wpIy P ops Q rest a' w') a w
  | (i, _) :: rest, a, w => wpOp P ops Q i (fun a' w' => wpIy P ops Q rest a' w') a w
def iyB (ops : Array Oper) : List (Nat × Nat) → Array Bool → Bool
  | [], listed => (Region.ready .any ops listed).isEmpty
  | (i, 0) :: rest, listed => (Region.ready .any ops listed).contains i && Region.free .any ops listed i && iyB ops rest (listed.setIfInBounds i true)
  | (i, 1) :: rest, listed => (Region.ready .any ops listed == [i]) && iyB ops rest (listed.setIfInBounds i true)
  | (i, _) :: rest, listed => (Region.ready .any ops listed == [i]) && barrier ops i listed && iyB ops rest (listed.setIfInBounds i true)
theorem x_of_iy (hQ : ∀ c (a : Act) d v w, Q (.panic c) (a.put d v) w → Q (.panic c) a w) (hs : Region.noSelect ops = true) : ∀ (s : List (Nat × Nat)) (listed : Array Bool) (a : Act) (w : World), Closed ops listed →
    iyB ops s listed = true → wpIy P ops Q s a w → wpX P ops Q (Below w.heap.size w) s.length listed a w
  | [], listed, a, w, _, hB, h => ⟨by simpa [iyB] using hB, h⟩
  | (i, 0) :: rest, listed, a, w, hc, hB, h => by
    obtain ⟨o, v, ho, hy, hr⟩ := h
    simp only [iyB, Bool.and_eq_true] at hB
    exact wpX_first ho (Region.noSelect_spec hs) (fun c a w h => hQ c a _ _ w h) rest.length listed a w hc (Region.free_spec ho hB.1.2) (by simpa using hB.1.1) hy (Below.refl _ _) (x_of_iy hQ hs rest _ _ w (closed_set hc (by simpa using hB.1.1)) hB.2 hr)
  | (i, 1) :: rest, listed, a, w, hc, hB, h => by
    simp only [iyB, Bool.and_eq_true, beq_iff_eq] at hB
    refine ⟨fun h0 => (by rw [hB.1] at h0; cases h0), fun j hj => ?_⟩
    rw [hB.1] at hj
    obtain rfl : j = i := by simpa using hj
    refine wpOp_mono (fun a' w' h' => ?_) h
    have hrec := x_of_iy hQ hs rest _ a' w' (closed_set hc (by rw [hB.1]; simp)) hB.2 h'.2
    split
    · exact any_of_x _ _ _ _ hrec
    · exact ⟨h'.1, wpX_weaken (fun w'' hb => h'.1.trans (hb.mono h'.1.size)) _ _ _ _ hrec⟩
  | (i, k + 2) :: rest, listed, a, w, hc, hB, h => by
    simp only [iyB, Bool.and_eq_true, beq_iff_eq] at hB
    refine ⟨fun h0 => (by rw [hB.1.1] at h0; cases h0), fun j hj => ?_⟩
    rw [hB.1.1] at hj
    obtain rfl : j = i := by simpa using hj
    refine wpOp_mono (fun a' w' h' => ?_) h
    rw [if_pos hB.1.2]
    exact any_of_x _ _ _ _ (x_of_iy hQ hs rest _ a' w' (closed_set hc (by rw [hB.1.1]; simp)) hB.2 h')

theorem iy_of_list {X : Act → Prop} {rest : List (Nat × Nat)} : ∀ (l : List Oper) (is : List Nat) (a : Act) (w : World), (∀ o ∈ l, quietOp P o.op = true) → is.map (fun i => ops[i]?) = l.map some →
    wpList P ops (fun e a' w' => e = .normal ∧ w' = w ∧ X a') l a w → (∀ a', X a' → wpIy P ops Q rest a' w) → wpIy P ops Q (is.map (fun i => (i, 0)) ++ rest) a w
  | [], is, a, w, _, hi, h, hr => by
    obtain rfl : is = [] := by simpa using hi
    exact hr a h.2.2
  | o :: l, [], a, w, _, hi, h, hr => by simp at hi
  | o :: l, i :: is, a, w, hq, hi, h, hr => by
    simp only [List.map_cons, List.cons.injEq] at hi
    unfold wpList at h
    simp only [List.map_cons, List.cons_append, wpIy]
    have hqo := hq o (List.mem_cons_self ..)
    have hql : ∀ o ∈ l, quietOp P o.op = true := fun o ho => hq o (List.mem_cons_of_mem _ ho)
    split at h
    · rename_i hw
      rcases h with h | ⟨_, a', w', h⟩
      · unfold Oper.wp at h
        cases hr' : (execOp a.eval o).run P w with
        | halt y w' =>
          rw [hr'] at h
          cases y <;> simp only [Oper.upon] at h
          exact absurd h.1 (by simp)
        | ok n w1 =>
          rw [hr'] at h
          obtain ⟨v, rfl⟩ := vals_exec o hqo w n w1 hr'
          simp only [Oper.upon] at h
          rcases steady_exec (reads_eval a) o hqo w _ w1 hr' with ⟨rfl, hl⟩ | hg
          · exact ⟨o, v, hi.1, .inl ⟨hw, fun w' hb => hl w' hb⟩, iy_of_list l is _ w1 hql hi.2 h hr⟩
          · obtain ⟨a', w', hw', hK⟩ := list_ends (fun e a w hK => hK.1) l _ _ hql h
            exfalso
            rcases hw' with rfl | hg2
            · rw [hK.2.1] at hg; exact hg.irrefl
            · rw [hK.2.1] at hg2; exact (hg.trans hg2).irrefl
      · exact absurd h.1 (by simp)
    · rename_i hw
      exact ⟨o, undef, hi.1, .inr ⟨by simpa using hw, rfl⟩, iy_of_list l is _ w hql hi.2 h hr⟩

/-- the segments from class c on; for each act that is still to come: does it come behind everything? -/
def Sego (P : Program) (ops : Array Oper) (Q : Exit → Act → World → Prop) (cls : List Nat) (l : List Oper) : List Bool → Nat → Act → World → Prop
  | [], c, a, w => Seg P ops (pickC c cls l) a w (fun a' w' => w' = w ∧ Q .normal a' w)
  | false :: fl, c, a, w => Seg P ops (pickC c cls l) a w (fun a' w' => w' = w ∧ Seg P ops (pickC (c + 1) cls l) a' w (fun a'' w'' => Below w.heap.size w w'' ∧ Sego P ops Q cls l fl (c + 2) a'' w''))
  | true :: fl, c, a, w => Seg P ops (pickC c cls l) a w (fun a' w' => w' = w ∧ Seg P ops (pickC (c + 1) cls l) a' w (fun a'' w'' => Sego P ops Q cls l fl (c + 2) a'' w''))
def plan2 (cls : List Nat) : List Bool → Nat → List (Nat × Nat)
  | [], c => (idxC c cls 0).map fun i => (i, 0)
  | b :: fl, c => (idxC c cls 0).map (fun i => (i, 0)) ++ ((idxC (c + 1) cls 0).map (fun i => (i, if b then 2 else 1)) ++ plan2 cls fl (c + 2))
theorem seg_quiet2 {X : Act → Prop} {l : List Oper} {is : List Nat} {rest : List (Nat × Nat)} {a : Act} {w : World} (hq : (l.all fun o => quietOp P o.op) = true) (hi : is.map (fun i => ops[i]?) = l.map some)
    (h : Seg P ops l a w (fun a' w' => w' = w ∧ X a')) (hr : ∀ a', X a' → wpIy P ops Q rest a' w) : wpIy P ops Q (is.map (fun i => (i, 0)) ++ rest) a w :=
  iy_of_list l is a w (List.all_eq_true.1 hq) hi (h (fun e a' w' => e = .normal ∧ w' = w ∧ X a') (Lib.hid fun a' w' hc => ⟨rfl, hc⟩)) hr
theorem iy_of_sego {cls : List Nat} {l : List Oper} (hlen : cls.length = l.length) : ∀ (fl : List Bool) (c : Nat) (a : Act) (w : World), planB P cls l fl.length c = true → Sego P l.toArray Q cls l fl c a w → wpIy P l.toArray Q (plan2 cls fl c) a w
  | [], c, a, w, hB, h => by
    have := seg_quiet2 (Q := Q) (rest := []) (X := fun a' => Q .normal a' w) (by simpa [planB] using hB) (pick_idx c cls l 0 hlen (by simp)) h (fun a' h => h)
    simpa [plan2] using this
  | b :: fl, c, a, w, hB, h => by
    simp only [List.length_cons, planB, Bool.and_eq_true, beq_iff_eq] at hB
    have hp := pick_idx (ops := l.toArray) (c + 1) cls l 0 hlen (by simp)
    obtain ⟨o, ho⟩ := List.length_eq_one_iff.1 hB.1.2
    cases hx : idxC (c + 1) cls 0 with
    | nil => rw [hx, ho] at hp; simp at hp
    | cons i is =>
      rw [hx, ho] at hp
      simp only [List.map_cons, List.map_nil, List.cons.injEq, List.map_eq_nil_iff] at hp
      obtain ⟨hi, rfl⟩ := hp
      cases b with
      | false =>
        unfold plan2
        refine seg_quiet2 hB.1.1 (pick_idx c cls l 0 hlen (by simp)) h fun a' h' => ?_
        rw [hx]
        rw [ho] at h'
        simp only [List.map_cons, List.map_nil, List.cons_append, List.nil_append, Bool.false_eq_true, if_false, wpIy]
        exact wpOp_mono (fun a2 w2 h2 => ⟨h2.1, iy_of_sego hlen fl (c + 2) a2 w2 hB.2 h2.2⟩) (op_of_seg hi h')
      | true =>
        unfold plan2
        refine seg_quiet2 hB.1.1 (pick_idx c cls l 0 hlen (by simp)) h fun a' h' => ?_
        rw [hx]
        rw [ho] at h'
        simp only [List.map_cons, List.map_nil, List.cons_append, List.nil_append, if_true, wpIy]
        exact wpOp_mono (fun a2 w2 h2 => iy_of_sego hlen fl (c + 2) a2 w2 hB.2 h2) (op_of_seg hi h')
def regB2 (P : Program) (cls : List Nat) (l : List Oper) (fl : List Bool) : Bool :=
  cls.length == l.length && Region.noSelect l.toArray && planB P cls l fl.length 0 && (plan2 cls fl 0).length == l.length && iyB l.toArray (plan2 cls fl 0) (Array.replicate l.length false)
/-- THE REGION -/
theorem wp_region_sego {l : List Oper} (cls : List Nat) (fl : List Bool) {id : Nat} {a : Act} {w : World} (hm : P.follows .mixedOrders = true) (hB : regB2 P cls l fl = true)
    (hQ : ∀ c (a : Act) d v w, Q (.panic c) (a.put d v) w → Q (.panic c) a w) (h : Sego P l.toArray Q cls l fl 0 a w.drew) : (Code.region id l.toArray true).wp P Q a w := by
  simp only [regB2, Bool.and_eq_true, beq_iff_eq] at hB
  obtain ⟨⟨⟨⟨h1, h2⟩, h3⟩, h4⟩, h5⟩ := hB
  have := any_of_x _ _ _ _ (x_of_iy hQ h2 (plan2 cls fl 0) (Array.replicate l.length false) a w.drew (fun j o _ hj => by exfalso; rcases Nat.lt_or_ge j l.length with h | h <;> simp [h] at hj) h5 (iy_of_sego h1 fl 0 a w.drew h3 h))
  rw [h4] at this
  exact wp_region_any hm (by simpa using this)

/-! the moves -/
theorem sego_go {cls : List Nat} {l : List Oper} {fl : List Bool} {c : Nat} {a : Act} {w : World}
    (h : ∀ K : Exit → Act → World → Prop, Hid (∀ a', Seg P ops (pickC (c + 1) cls l) a' w (fun a'' w'' => Below w.heap.size w w'' ∧ Sego P ops Q cls l fl (c + 2) a'' w'') → K .normal a' w) → wpList P ops K (pickC c cls l) a w) :
    Sego P ops Q cls l (false :: fl) c a w := fun K hK => h K (Lib.hid fun a' hs => hK.out a' w ⟨rfl, hs⟩)
theorem sego_last {cls : List Nat} {l : List Oper} {fl : List Bool} {c : Nat} {a : Act} {w : World}
    (h : ∀ K : Exit → Act → World → Prop, Hid (∀ a', Seg P ops (pickC (c + 1) cls l) a' w (fun a'' w'' => Sego P ops Q cls l fl (c + 2) a'' w'') → K .normal a' w) → wpList P ops K (pickC c cls l) a w) :
    Sego P ops Q cls l (true :: fl) c a w := fun K hK => h K (Lib.hid fun a' hs => hK.out a' w ⟨rfl, hs⟩)
theorem sego_act {cls : List Nat} {l l1 : List Oper} {fl : List Bool} {c : Nat} {a : Act} {w : World}
    (h : ∀ K : Exit → Act → World → Prop, Hid (∀ a'' w'', Below w.heap.size w w'' → Sego P ops Q cls l fl c a'' w'' → K .normal a'' w'') → wpList P ops K l1 a w) :
    Seg P ops l1 a w (fun a'' w'' => Below w.heap.size w w'' ∧ Sego P ops Q cls l fl c a'' w'') := fun K hK => h K (Lib.hid fun a' w' hb hs => hK.out a' w' ⟨hb, hs⟩)
theorem sego_do {cls : List Nat} {l l1 : List Oper} {fl : List Bool} {c : Nat} {a : Act} {w : World}
    (h : ∀ K : Exit → Act → World → Prop, Hid (∀ a'' w'', Sego P ops Q cls l fl c a'' w'' → K .normal a'' w'') → wpList P ops K l1 a w) :
    Seg P ops l1 a w (fun a'' w'' => Sego P ops Q cls l fl c a'' w'') := fun K hK => h K (Lib.hid fun a' w' hs => hK.out a' w' hs)
theorem sego_end {cls : List Nat} {l : List Oper} {c : Nat} {a : Act} {w : World}
    (h : ∀ K : Exit → Act → World → Prop, Hid (∀ a', Q .normal a' w → K .normal a' w) → wpList P ops K (pickC c cls l) a w) :
    Sego P ops Q cls l [] c a w := fun K hK => h K (Lib.hid fun a' hs => hK.out a' w ⟨rfl, hs⟩)
end
end Go.Proofs.YtediocpdpghbfaaDoor
namespace Go.Proofs.YtediocpdpghbfaaDoor
open Go Go.RowKit

/-- a tree of orders; a mask says of each operation whether it is meant -/
inductive Pl where
  | stop : Pl
  | look (m : List Bool) (p : Pl) : Pl
  | act (m : List Bool) (p : Pl) : Pl
  | last (m : List Bool) (p : Pl) : Pl
  | fork (m : List Bool) (p q : Pl) : Pl
def idxM : List Bool → Nat → List Nat
  | b :: ks, i => if b then i :: idxM ks (i + 1) else idxM ks (i + 1)
  | [], _ => []
def pickM : List Bool → List Oper → List Oper
  | true :: ks, o :: os => o :: pickM ks os
  | false :: ks, _ :: os => pickM ks os
  | _, _ => []
def Pl.heads : Pl → List Nat
  | act m _ => idxM m 0
  | last m _ => idxM m 0
  | fork m _ q => idxM m 0 ++ q.heads
  | _ => []
def Pl.depth : Pl → Nat
  | stop => 0
  | look m p => (idxM m 0).length + p.depth
  | act _ p => p.depth + 1
  | last _ p => p.depth + 1
  | fork _ p _ => p.depth + 1
def lookB (ops : Array Oper) : List Nat → Array Bool → Bool
  | [], _ => true
  | i :: is, L => (Region.ready .any ops L).contains i && Region.free .any ops L i && lookB ops is (L.setIfInBounds i true)
def setAll : List Nat → Array Bool → Array Bool
  | [], L => L
  | i :: is, L => setAll is (L.setIfInBounds i true)
def Pl.chk (P : Program) (l : List Oper) : Pl → Bool → Array Bool → Bool
  | stop, b, L => !b && (Region.ready .any l.toArray L).isEmpty
  | look m p, b, L => !b && (m.length == l.length) && ((pickM m l).all fun o => quietOp P o.op) && lookB l.toArray (idxM m 0) L && p.chk P l false (setAll (idxM m 0) L)
  | act m p, b, L => (b || Region.ready .any l.toArray L == idxM m 0) && (m.length == l.length) && ((idxM m 0).length == 1) && p.chk P l false (setAll (idxM m 0) L)
  | last m p, b, L => !b && (Region.ready .any l.toArray L == idxM m 0) && (m.length == l.length) && ((idxM m 0).length == 1) && barrier l.toArray ((idxM m 0).headD 0) L && p.chk P l false (setAll (idxM m 0) L)
  | fork m p q, b, L => (b || Region.ready .any l.toArray L == idxM m 0 ++ q.heads) && (m.length == l.length) && ((idxM m 0).length == 1) && (q.depth == p.depth + 1) && p.chk P l false (setAll (idxM m 0) L) && q.chk P l true L

section
variable {P : Program} {ops : Array Oper} {Q : Exit → Act → World → Prop} {l : List Oper}
theorem pick_idxM : ∀ (m : List Bool) (l : List Oper) (k : Nat), m.length = l.length → (∀ j, l[j]? = ops[k + j]?) → (idxM m k).map (fun i => ops[i]?) = (pickM m l).map some
  | [], [], _, _, _ => rfl
  | [], _ :: _, _, h, _ => by simp at h
  | _ :: _, [], _, h, _ => by simp at h
  | x :: xs, o :: l, k, h, hl => by
    have h0 : ops[k]? = some o := by simpa using (hl 0).symm
    have ih := pick_idxM xs l (k + 1) (by simpa using h) (fun j => by have := hl (j + 1); simpa [Nat.add_assoc, Nat.add_comm 1 j] using this)
    cases x with
    | false => simpa [idxM, pickM] using ih
    | true => simp only [idxM, pickM, if_true, List.map_cons, h0, ih]

/-- a chain of looks, and what holds behind it -/
def Looks (P : Program) (ops : Array Oper) (w : World) (C : Act → Prop) : List Nat → Act → Prop
  | [], a => C a
  | i :: is, a => ∃ o v, ops[i]? = some o ∧ YieldsIf P ops (Below w.heap.size w) o v a ∧ Looks P ops w C is (a.put o.dst v)
theorem looks_of_list {X : Act → Prop} : ∀ (l : List Oper) (is : List Nat) (a : Act) (w : World), (∀ o ∈ l, quietOp P o.op = true) → is.map (fun i => ops[i]?) = l.map some →
    wpList P ops (fun e a' w' => e = .normal ∧ w' = w ∧ X a') l a w → Looks P ops w X is a
  | [], is, a, w, _, hi, h => by
    obtain rfl : is = [] := by simpa using hi
    exact h.2.2
  | o :: l, [], a, w, _, hi, h => by simp at hi
  | o :: l, i :: is, a, w, hq, hi, h => by
    simp only [List.map_cons, List.cons.injEq] at hi
    unfold wpList at h
    unfold Looks
    have hqo := hq o (List.mem_cons_self ..)
    have hql : ∀ o ∈ l, quietOp P o.op = true := fun o ho => hq o (List.mem_cons_of_mem _ ho)
    split at h
    · rename_i hw
      rcases h with h | ⟨_, a', w', h⟩
      · unfold Oper.wp at h
        cases hr' : (execOp a.eval o).run P w with
        | halt y w' =>
          rw [hr'] at h
          cases y <;> simp only [Oper.upon] at h
          exact absurd h.1 (by simp)
        | ok n w1 =>
          rw [hr'] at h
          obtain ⟨v, rfl⟩ := vals_exec o hqo w n w1 hr'
          simp only [Oper.upon] at h
          rcases steady_exec (reads_eval a) o hqo w _ w1 hr' with ⟨rfl, hl⟩ | hg
          · exact ⟨o, v, hi.1, .inl ⟨hw, fun w' hb => hl w' hb⟩, looks_of_list l is _ w1 hql hi.2 h⟩
          · obtain ⟨a', w', hw', hK⟩ := list_ends (fun e a w hK => hK.1) l _ _ hql h
            exfalso
            rcases hw' with rfl | hg2
            · rw [hK.2.1] at hg; exact hg.irrefl
            · rw [hK.2.1] at hg2; exact (hg.trans hg2).irrefl
      · exact absurd h.1 (by simp)
    · rename_i hw
      exact ⟨o, undef, hi.1, .inr ⟨by simpa using hw, rfl⟩, looks_of_list l is _ w hql hi.2 h⟩
theorem x_of_looks (hQ : ∀ c (a : Act) d v w, Q (.panic c) (a.put d v) w → Q (.panic c) a w) (hs : Region.noSelect ops = true) {fuel : Nat} {w : World} : ∀ (is : List Nat) (L : Array Bool) (a : Act), Closed ops L → lookB ops is L = true →
    Looks P ops w (fun a' => Closed ops (setAll is L) → wpX P ops Q (Below w.heap.size w) fuel (setAll is L) a' w) is a → wpX P ops Q (Below w.heap.size w) (is.length + fuel) L a w
  | [], L, a, hc, _, h => by simpa [setAll] using h hc
  | i :: is, L, a, hc, hB, ⟨o, v, ho, hy, hr⟩ => by
    simp only [lookB, Bool.and_eq_true] at hB
    have hin : i ∈ Region.ready .any ops L := by simpa using hB.1.1
    rw [show (i :: is).length + fuel = (is.length + fuel) + 1 by simp; omega]
    exact wpX_first ho (Region.noSelect_spec hs) (fun c a w h => hQ c a _ _ w h) _ L a w hc (Region.free_spec ho hB.1.2) hin hy (Below.refl _ _) (x_of_looks hQ hs is _ _ (closed_set hc hin) hB.2 hr)

/-- the walk of a tree -/
def St (P : Program) (ops : Array Oper) (Q : Exit → Act → World → Prop) (l : List Oper) : Pl → Act → World → Prop
  | .stop, a, w => Q .normal a w
  | .look m p, a, w => Seg P ops (pickM m l) a w (fun a' w' => w' = w ∧ St P ops Q l p a' w)
  | .act m p, a, w => Seg P ops (pickM m l) a w (fun a' w' => Below w.heap.size w w' ∧ St P ops Q l p a' w')
  | .last m p, a, w => Seg P ops (pickM m l) a w (fun a' w' => St P ops Q l p a' w')
  | .fork m p q, a, w => Seg P ops (pickM m l) a w (fun a' w' => Below w.heap.size w w' ∧ St P ops Q l p a' w') ∧ St P ops Q l q a w

theorem one_idx {m : List Bool} (hl : m.length = l.length) (h1 : (idxM m 0).length = 1) : ∃ i o, idxM m 0 = [i] ∧ pickM m l = [o] ∧ l.toArray[i]? = some o := by
  have hp := pick_idxM (ops := l.toArray) m l 0 hl (by simp)
  obtain ⟨i, hi⟩ := List.length_eq_one_iff.1 h1
  rw [hi] at hp
  simp only [List.map_cons, List.map_nil] at hp
  cases hk : pickM m l with
  | nil => rw [hk] at hp; simp at hp
  | cons o t =>
    rw [hk] at hp
    simp only [List.map_cons, List.cons.injEq] at hp
    obtain rfl : t = [] := by simpa using hp.2.symm
    exact ⟨i, o, hi, rfl, hp.1⟩

theorem x_of_st (hQ : ∀ c (a : Act) d v w, Q (.panic c) (a.put d v) w → Q (.panic c) a w) (hs : Region.noSelect l.toArray = true) : ∀ (p : Pl),
    (∀ (L : Array Bool) (a : Act) (w : World), Closed l.toArray L → p.chk P l false L = true → St P l.toArray Q l p a w → wpX P l.toArray Q (Below w.heap.size w) p.depth L a w) ∧
    (∀ (L : Array Bool) (a : Act) (w : World), Closed l.toArray L → p.chk P l true L = true → (∀ j ∈ p.heads, j ∈ Region.ready .any l.toArray L) → St P l.toArray Q l p a w →
      ∀ j ∈ p.heads, ∃ k, p.depth = k + 1 ∧ wpOp P l.toArray Q j (fun a' w' => Below w.heap.size w w' ∧ wpX P l.toArray Q (Below w'.heap.size w') k (L.setIfInBounds j true) a' w') a w)
  | .stop => ⟨fun L a w _ hB h => ⟨by simpa [Pl.chk] using hB, h⟩, fun L a w _ hB => by simp [Pl.chk] at hB⟩
  | .look m p => by
    refine ⟨fun L a w hc hB h => ?_, fun L a w _ hB => by simp [Pl.chk] at hB⟩
    simp only [Pl.chk, Bool.and_eq_true, beq_iff_eq, Bool.not_false, true_and] at hB
    obtain ⟨⟨⟨hl, hq⟩, hk⟩, hp⟩ := hB
    refine x_of_looks hQ hs (idxM m 0) L a hc hk ?_
    refine looks_of_list (pickM m l) (idxM m 0) a w (List.all_eq_true.1 hq) (pick_idxM m l 0 hl (by simp)) ?_
    exact h _ (Lib.hid fun a' w' h' => ⟨rfl, h'.1, fun hc' => (x_of_st hQ hs p).1 _ a' w hc' hp h'.2⟩)
  | .act m p => by
    have key : ∀ (L : Array Bool) (a : Act) (w : World), Closed l.toArray L → m.length = l.length → (idxM m 0).length = 1 → p.chk P l false (setAll (idxM m 0) L) = true → (∀ j ∈ idxM m 0, j ∈ Region.ready .any l.toArray L) → St P l.toArray Q l (.act m p) a w →
        ∀ j ∈ idxM m 0, wpOp P l.toArray Q j (fun a' w' => Below w.heap.size w w' ∧ wpX P l.toArray Q (Below w'.heap.size w') p.depth (L.setIfInBounds j true) a' w') a w := by
      intro L a w hc hl h1 hp hr h j hj
      obtain ⟨i, o, hi, hk, ho⟩ := one_idx hl h1
      rw [hi] at hj hp hr
      obtain rfl : j = i := by simpa using hj
      unfold St at h
      rw [hk] at h
      exact wpOp_mono (fun a' w' h' => ⟨h'.1, (x_of_st hQ hs p).1 _ a' w' (closed_set hc (hr j (by simp))) hp h'.2⟩) (op_of_seg ho h)
    refine ⟨fun L a w hc hB h => ?_, fun L a w hc hB hr h j hj => ?_⟩
    · simp only [Pl.chk, Bool.false_or, Bool.and_eq_true, beq_iff_eq] at hB
      obtain ⟨⟨⟨hr, hl⟩, h1⟩, hp⟩ := hB
      have hk := key L a w hc hl h1 hp (fun j hj => by rw [hr]; exact hj) h
      refine ⟨fun h0 => (by rw [hr] at h0; rw [h0] at h1; simp at h1), fun j hj => ?_⟩
      refine wpOp_mono (fun a' w' h' => ?_) (hk j (by rw [← hr]; exact hj))
      split
      · exact any_of_x _ _ _ _ h'.2
      · exact ⟨h'.1, wpX_weaken (fun w'' hb => h'.1.trans (hb.mono h'.1.size)) _ _ _ _ h'.2⟩
    · simp only [Pl.chk, Bool.true_or, Bool.and_eq_true, beq_iff_eq, true_and] at hB
      obtain ⟨⟨hl, h1⟩, hp⟩ := hB
      exact ⟨p.depth, rfl, key L a w hc hl h1 hp hr h j hj⟩
  | .last m p => by
    refine ⟨fun L a w hc hB h => ?_, fun L a w _ hB => by simp [Pl.chk] at hB⟩
    simp only [Pl.chk, Bool.not_false, Bool.and_eq_true, beq_iff_eq, true_and] at hB
    obtain ⟨⟨⟨⟨hr, hl⟩, h1⟩, hb⟩, hp⟩ := hB
    obtain ⟨i, o, hi, hk, ho⟩ := one_idx hl h1
    rw [hi] at hr hp hb
    unfold St at h
    rw [hk] at h
    refine ⟨fun h0 => (by rw [hr] at h0; cases h0), fun j hj => ?_⟩
    rw [hr] at hj
    obtain rfl : j = i := by simpa using hj
    refine wpOp_mono (fun a' w' h' => ?_) (op_of_seg ho h)
    rw [if_pos (by simpa using hb)]
    exact any_of_x _ _ _ _ ((x_of_st hQ hs p).1 _ a' w' (closed_set hc (by rw [hr]; simp)) hp h')
  | .fork m p q => by
    have key : ∀ (L : Array Bool) (a : Act) (w : World), Closed l.toArray L → m.length = l.length → (idxM m 0).length = 1 → q.depth = p.depth + 1 → p.chk P l false (setAll (idxM m 0) L) = true → q.chk P l true L = true →
        (∀ j ∈ idxM m 0 ++ q.heads, j ∈ Region.ready .any l.toArray L) → St P l.toArray Q l (.fork m p q) a w →
        ∀ j ∈ idxM m 0 ++ q.heads, wpOp P l.toArray Q j (fun a' w' => Below w.heap.size w w' ∧ wpX P l.toArray Q (Below w'.heap.size w') p.depth (L.setIfInBounds j true) a' w') a w := by
      intro L a w hc hl h1 hd hp hq hr h j hj
      unfold St at h
      rcases List.mem_append.1 hj with hj1 | hj1
      · obtain ⟨i, o, hi, hk, ho⟩ := one_idx hl h1
        rw [hi] at hj1 hp
        obtain rfl : j = i := by simpa using hj1
        rw [hk] at h
        exact wpOp_mono (fun a' w' h' => ⟨h'.1, (x_of_st hQ hs p).1 _ a' w' (closed_set hc (hr j hj)) hp h'.2⟩) (op_of_seg ho h.1)
      · obtain ⟨k, hk, hw⟩ := (x_of_st hQ hs q).2 L a w hc hq (fun j hj => hr j (List.mem_append.2 (.inr hj))) h.2 j hj1
        obtain rfl : k = p.depth := by omega
        exact hw
    refine ⟨fun L a w hc hB h => ?_, fun L a w hc hB hr h j hj => ?_⟩
    · simp only [Pl.chk, Bool.false_or, Bool.and_eq_true, beq_iff_eq] at hB
      obtain ⟨⟨⟨⟨⟨hr, hl⟩, h1⟩, hd⟩, hp⟩, hq⟩ := hB
      have hk := key L a w hc hl h1 hd hp hq (fun j hj => by rw [hr]; exact hj) h
      refine ⟨fun h0 => (by rw [hr] at h0; rw [(List.append_eq_nil_iff.1 h0).1] at h1; simp at h1), fun j hj => ?_⟩
      refine wpOp_mono (fun a' w' h' => ?_) (hk j (by rw [← hr]; exact hj))
      split
      · exact any_of_x _ _ _ _ h'.2
      · exact ⟨h'.1, wpX_weaken (fun w'' hb => h'.1.trans (hb.mono h'.1.size)) _ _ _ _ h'.2⟩
    · simp only [Pl.chk, Bool.true_or, Bool.and_eq_true, beq_iff_eq, true_and] at hB
      obtain ⟨⟨⟨⟨hl, h1⟩, hd⟩, hp⟩, hq⟩ := hB
      exact ⟨p.depth, rfl, key L a w hc hl h1 hd hp hq hr h j hj⟩

def treeB (P : Program) (p : Pl) (l : List Oper) : Bool := Region.noSelect l.toArray && (p.depth == l.length) && p.chk P l false (Array.replicate l.length false)
/-- THE REGION -/
theorem wp_region_tree (p : Pl) {id : Nat} {a : Act} {w : World} (hm : P.follows .mixedOrders = true) (hB : treeB P p l = true)
    (hQ : ∀ c (a : Act) d v w, Q (.panic c) (a.put d v) w → Q (.panic c) a w) (h : St P l.toArray Q l p a w.drew) : (Code.region id l.toArray true).wp P Q a w := by
  simp only [treeB, Bool.and_eq_true, beq_iff_eq] at hB
  obtain ⟨⟨h2, h4⟩, h5⟩ := hB
  have := any_of_x _ _ _ _ ((x_of_st hQ h2 p).1 (Array.replicate l.length false) a w.drew (fun j o _ hj => by exfalso; rcases Nat.lt_or_ge j l.length with h | h <;> simp [h] at hj) h5 h)
  rw [h4] at this
  exact wp_region_any hm (by simpa using this)
/-! the moves -/
theorem st_look {m : List Bool} {p : Pl} {a : Act} {w : World} (h : ∀ K : Exit → Act → World → Prop, Hid (∀ a', St P ops Q l p a' w → K .normal a' w) → wpList P ops K (pickM m l) a w) : St P ops Q l (.look m p) a w :=
  fun K hK => h K (Lib.hid fun a' hs => hK.out a' w ⟨rfl, hs⟩)
theorem st_act {m : List Bool} {p : Pl} {a : Act} {w : World} (h : ∀ K : Exit → Act → World → Prop, Hid (∀ a' w', Below w.heap.size w w' → St P ops Q l p a' w' → K .normal a' w') → wpList P ops K (pickM m l) a w) : St P ops Q l (.act m p) a w :=
  fun K hK => h K (Lib.hid fun a' w' hb hs => hK.out a' w' ⟨hb, hs⟩)
theorem st_last {m : List Bool} {p : Pl} {a : Act} {w : World} (h : ∀ K : Exit → Act → World → Prop, Hid (∀ a' w', St P ops Q l p a' w' → K .normal a' w') → wpList P ops K (pickM m l) a w) : St P ops Q l (.last m p) a w :=
  fun K hK => h K (Lib.hid fun a' w' hs => hK.out a' w' hs)
theorem st_fork {m : List Bool} {p q : Pl} {a : Act} {w : World} (h : ∀ K : Exit → Act → World → Prop, Hid (∀ a' w', Below w.heap.size w w' → St P ops Q l p a' w' → K .normal a' w') → wpList P ops K (pickM m l) a w)
    (hq : St P ops Q l q a w) : St P ops Q l (.fork m p q) a w := ⟨fun K hK => h K (Lib.hid fun a' w' hb hs => hK.out a' w' ⟨hb, hs⟩), hq⟩
end
end Go.Proofs.YtediocpdpghbfaaDoor
