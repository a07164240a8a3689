/- Which operations only look (a Bool over the operation's text): each of them is steady. Over any program. -/
import Derived.Test.YtediocpdpghbfaaDoorSted
set_option linter.unusedSimpArgs false
set_option linter.unusedVariables false
namespace Go.Proofs.YtediocpdpghbfaaDoor
open Go Go.RowKit

section
variable {P : Program} {α β : Type}

theorem steady_numberAt (r : Nat) : Steady P (numberAt r) := by
  unfold numberAt
  exact steady_shape_obj (steady_pure _) fun o => by split <;> exact steady_pure _
theorem steady_viewAt (r : Nat) : Steady P (viewAt r) := by
  unfold viewAt
  exact steady_shape_obj (steady_pure _) fun o => by split <;> exact steady_pure _
theorem steady_noView (a : Addr) : Steady P (noView a) := by
  unfold noView
  exact steady_bind (steady_viewAt _) fun o => steady_ite (steady_unsupported _) (steady_pure _)
theorem steady_behindNumber (n : Addr) : Steady P (behindNumber n) := by
  unfold behindNumber
  exact steady_bind (steady_numberAt _) fun o => steady_pure _
theorem steady_byteOf (a : Addr) : Steady P (byteOf a) := by
  unfold byteOf
  split
  · exact steady_pure _
  · refine steady_bind steady_program fun p => steady_bind (steady_noView _) fun _ => ?_
    refine steady_shape (fun w v w1 h => by simp [stuck, Sem.run] at h) fun s => ?_
    obtain ⟨e, n⟩ := s
    dsimp only
    refine steady_ite (steady_pure _) ?_
    split
    · exact steady_pure _
    · exact steady_stuck _
theorem steady_partAt (a : Addr) (c b : Nat) : Steady P (partAt a c b) := by
  unfold partAt
  exact steady_bind (steady_byteOf _) fun x => steady_bind (steady_byteOf _) fun y => steady_pure _
theorem steady_fieldPlace (a : Addr) (f : Field) : Steady P (fieldPlace a f) := by
  unfold fieldPlace
  exact steady_bind (steady_sizeOf _) fun x => steady_ite (steady_partAt _ _ _) (steady_pure _)
theorem steady_asNumber (a : Addr) (l : Bool) : Steady P (asNumber a l) := by
  unfold asNumber
  exact steady_bind (steady_new _) fun x => steady_pure _
theorem steady_fieldAt (s : TypeId) (x : Value) (f : Nat) : Steady P (Instr.fieldAt s x f) := by
  unfold Instr.fieldAt
  refine steady_bind (steady_underlying _) fun d => ?_
  split
  · split
    · exact steady_bind (steady_sureAddr _) fun a => steady_bind (steady_fieldPlace _ _) fun _ => steady_pure _
    · exact steady_stuck _
  · exact steady_stuck _
theorem steady_indexAt (t : TypeId) (x i : Value) : Steady P (Instr.indexAt t x i) := by
  unfold Instr.indexAt
  refine steady_bind (steady_asIntOf _) fun ki => ?_
  obtain ⟨k, i⟩ := ki
  dsimp only
  refine steady_bind (steady_underlying _) fun d => ?_
  repeat' first
    | exact steady_pure _
    | exact steady_stuck _
    | exact steady_unsupported _
    | exact steady_boundsPanic _ _ _ _
    | exact steady_sureAddr _
    | exact steady_underlying _
    | exact steady_sizeOf _
    | split
    | refine steady_bind ?_ fun _ => ?_
theorem steady_sliceBound (x : Value) (y : Nat) (c : BoundsCode) : Steady P (Instr.sliceBound x y c) := by
  unfold Instr.sliceBound
  refine steady_bind (steady_asIntOf _) fun ki => ?_
  exact steady_ite (steady_pure _) (steady_boundsPanic _ _ _ _)
theorem steady_sliceBounds (s : Bool) (l c : Nat) (lo hi mx : Option Value) : Steady P (Instr.sliceBounds s l c lo hi mx) := by
  unfold Instr.sliceBounds
  dsimp only
  repeat' first
    | exact steady_pure _
    | exact steady_stuck _
    | exact steady_sliceBound _ _ _
    | split
    | refine steady_bind ?_ fun _ => ?_
theorem steady_slice (t : TypeId) (x : Value) (lo hi mx : Option Value) : Steady P (Instr.slice t x lo hi mx) := by
  unfold Instr.slice
  refine steady_bind (steady_underlying _) fun d => ?_
  split
  · split
    · exact steady_bind (steady_stuck _) fun _ => steady_bind (steady_sliceBounds _ _ _ _ _ _) fun _ => steady_pure _
    · exact steady_bind (steady_sliceBounds _ _ _ _ _ _) fun _ => steady_pure _
  · exact steady_bind (steady_sliceBounds _ _ _ _ _ _) fun _ => steady_bind (steady_sizeOf _) fun _ => steady_pure _
  · refine steady_bind (steady_asAddr _) fun a => steady_bind (steady_underlying _) fun d => ?_
    split
    · exact steady_bind (steady_sliceBounds _ _ _ _ _ _) fun _ => steady_bind (steady_sizeOf _) fun _ => steady_pure _
    · exact steady_stuck _
  · exact steady_stuck _
theorem steady_sliceAt (t : TypeId) (x : Value) (lo hi mx : Option Value) : Steady P (Instr.sliceAt t x lo hi mx) := by
  unfold Instr.sliceAt
  refine steady_bind (steady_underlying _) fun d => ?_
  split
  · exact steady_bind (steady_sureAddr _) fun _ => steady_bind (steady_sliceBounds _ _ _ _ _ _) fun _ => steady_bind (steady_sizeOf _) fun _ => steady_pure _
  · exact steady_slice _ _ _ _ _
theorem steady_field (t : TypeId) (x : Value) (f : Nat) : Steady P (Instr.field t x f) := by
  unfold Instr.field
  refine steady_bind (steady_underlying _) fun d => ?_
  split
  · split
    · exact steady_bind (steady_asAgg _) fun _ => steady_part _ _ _
    · exact steady_stuck _
  · exact steady_stuck _
theorem steady_index (t : TypeId) (x i : Value) : Steady P (Instr.index t x i) := by
  unfold Instr.index
  refine steady_bind (steady_asIntOf _) fun ki => ?_
  obtain ⟨k, i⟩ := ki
  dsimp only
  refine steady_bind (steady_underlying _) fun d => ?_
  split
  · refine steady_ite ?_ (steady_boundsPanic _ _ _ _)
    exact steady_bind (steady_sizeOf _) fun _ => steady_part _ _ _
  · split
    · exact steady_pure _
    · exact steady_boundsPanic _ _ _ _
  · exact steady_stuck _
theorem steady_loadAt (t : TypeId) (x : Value) : Steady P (Instr.loadAt t x) := by
  unfold Instr.loadAt
  exact steady_bind (steady_sureAddr _) fun _ => steady_loadVar _ _
theorem steady_extract (x : Value) (i : Nat) : Steady P (Instr.extract x i) := by
  unfold Instr.extract
  repeat' split
  all_goals first | exact steady_pure _ | exact steady_stuck _
theorem steady_makeInterface (t : TypeId) (x : Value) : Steady P (Instr.makeInterface t x) := by
  unfold Instr.makeInterface
  refine steady_bind (steady_underlying _) fun d => ?_
  split
  · exact steady_stuck _
  · exact steady_pure _
theorem steady_build (t : TypeId) (ps : Array (Nat × Value)) : Steady P (Instr.build t ps) := by
  unfold Instr.build
  refine steady_bind (steady_zeroValue _) fun z => steady_bind (steady_underlying _) fun d => ?_
  split
  · refine steady_bind ?_ fun pl => ?_
    · rw [Array.mapM_eq_mapM_toList]
      exact steady_map _ (steady_mapM _ (fun a => steady_bind (steady_sizeOf _) fun _ => steady_pure _) _)
    · split
      · exact steady_pure _
      · exact steady_stuck _
  · refine steady_bind (steady_sizeOf _) fun n => ?_
    split
    · exact steady_pure _
    · exact steady_stuck _
  · exact steady_stuck _
theorem steady_followBlind : ∀ (l : List FieldStep) (t : TypeId) (x : Option Value), Steady P (followBlind l t x)
  | [], _, _ => steady_pure _
  | s :: rest, t, x => by
    unfold followBlind
    refine steady_bind (steady_underlying _) fun d => ?_
    split
    · split
      · split
        all_goals first
          | exact steady_pure _
          | exact steady_stuck _
          | exact steady_followBlind rest _ _
          | exact steady_bind (steady_part _ _ _) fun _ => steady_followBlind rest _ _
      · exact steady_stuck _
    · exact steady_stuck _
theorem steady_nilAhead : ∀ (n : Nat) (t : TypeId) (v : Value) (s : String), Steady P (nilAhead n t v s)
  | 0, _, _, _ => steady_pure _
  | n + 1, t, v, s => by
    unfold nilAhead
    refine steady_bind (steady_typeInfo _) fun i => ?_
    split
    · refine steady_bind (steady_followBlind _ _ _) fun r => ?_
      split
      · exact steady_pure _
      · split
        all_goals first
          | exact steady_nilAhead n _ _ _
          | exact steady_pure _
          | exact steady_stuck _
          | (refine steady_bind (steady_underlying _) fun d => ?_
             split <;> exact steady_pure _)
    · exact steady_stuck _

/-! arithmetic, comparisons -/
theorem steady_intArith (op : BinOp) (k : IntKind) (x y : Int) : Steady P (Op.intArith op k x y) := by
  unfold Op.intArith
  split <;> first | exact steady_pure _ | exact steady_stuck _
theorem steady_intDiv (op : BinOp) (k : IntKind) (x y : Int) : Steady P (Op.intDiv op k x y) := by
  unfold Op.intDiv
  refine steady_ite (steady_panic _) ?_
  split <;> first | exact steady_pure _ | exact steady_stuck _
theorem steady_intBits (op : BinOp) (k : IntKind) (x y : Int) : Steady P (Op.intBits op k x y) := by
  unfold Op.intBits
  dsimp only
  split <;> first | exact steady_pure _ | exact steady_stuck _
theorem steady_intCmp (op : BinOp) (x y : Int) : Steady P (Op.intCmp op x y) := by
  unfold Op.intCmp
  split <;> first | exact steady_pure _ | exact steady_stuck _
theorem steady_shift (op : BinOp) (k : IntKind) (x : Int) (j : IntKind) (y : Int) : Steady P (Op.shift op k x j y) := by
  unfold Op.shift
  refine steady_ite (steady_panic _) ?_
  dsimp only
  split <;> first | exact steady_pure _ | exact steady_stuck _
theorem steady_stringOp (op : BinOp) (x y : ByteArray) : Steady P (Op.stringOp op x y) := by
  unfold Op.stringOp
  dsimp only
  split
  · exact steady_ite (steady_unsupported _) (steady_pure _)
  all_goals first | exact steady_pure _ | exact steady_stuck _
theorem steady_floatCmp (op : BinOp) (k : FloatKind) (x y : Nat) : Steady P (Op.floatCmp op k x y) := by
  unfold Op.floatCmp
  dsimp only
  split <;> first | exact steady_pure _ | exact steady_stuck _
theorem steady_floatArith (op : BinOp) (k : FloatKind) (x y : Nat) : Steady P (Op.floatArith op k x y) := by
  unfold Op.floatArith
  dsimp only
  repeat' first
    | exact steady_pure _
    | exact steady_stuck _
    | exact steady_choose _
    | split
    | refine steady_bind ?_ fun _ => ?_
theorem steady_unary (op : UnOp) (x : Value) : Steady P (Op.unary op x) := by
  unfold Op.unary
  split <;> first | exact steady_pure _ | exact steady_stuck _ | exact steady_unsupported _ | exact steady_intArith _ _ _ _ | exact steady_intBits _ _ _ _
end
end Go.Proofs.YtediocpdpghbfaaDoor
