/- Which operations only look, the end: every binary operation, conversion, len and cap; the Bool over an operation's text, and that it says so. Over any program. -/
import Derived.Test.YtediocpdpghbfaaDoorKinb
set_option linter.unusedSimpArgs false
set_option linter.unusedVariables false
namespace Go.Proofs.YtediocpdpghbfaaDoor
open Go Go.RowKit

section
variable {P : Program} {α β : Type}

theorem steady_floatToFloat (s : FloatKind) (b : Nat) (k : FloatKind) : Steady P (Conv.floatToFloat s b k) := by
  unfold Conv.floatToFloat
  dsimp only
  repeat' first
    | exact steady_pure _
    | exact steady_choose _
    | split
    | refine steady_bind ?_ fun _ => ?_
theorem steady_carith (op : BinOp) (k : FloatKind) (x y : Nat) : Steady P (Op.Complex.arith op k x y) := by
  unfold Op.Complex.arith
  refine steady_bind (steady_floatArith _ _ _ _) fun r => ?_
  split <;> first | exact steady_pure _ | exact steady_stuck _
theorem steady_ccmp (op : BinOp) (k : FloatKind) (x y : Nat) : Steady P (Op.Complex.cmp op k x y) := by
  unfold Op.Complex.cmp
  exact steady_bind (steady_floatCmp _ _ _ _) fun r => steady_asBool _
theorem steady_cconv (s : FloatKind) (x : Nat) (k : FloatKind) : Steady P (Op.Complex.conv s x k) := by
  unfold Op.Complex.conv
  refine steady_ite (steady_pure _) (steady_bind (steady_floatToFloat _ _ _) fun r => ?_)
  split <;> first | exact steady_pure _ | exact steady_stuck _
theorem steady_cproduct (a b c d : Nat) : Steady P (Op.Complex.product a b c d) := by
  simp only [Op.Complex.product, Op.Complex.add, Op.Complex.sub, Op.Complex.mul]
  repeat' first
    | with_reducible exact steady_pure _
    | with_reducible exact steady_carith _ _ _ _
    | with_reducible refine steady_bind ?_ fun _ => ?_
theorem steady_ccorrected (s a b c d : Nat) : Steady P (Op.Complex.corrected s a b c d) := by
  simp only [Op.Complex.corrected, Op.Complex.add, Op.Complex.sub, Op.Complex.mul]
  repeat' first
    | with_reducible exact steady_pure _
    | with_reducible exact steady_carith _ _ _ _
    | with_reducible refine steady_bind ?_ fun _ => ?_
theorem steady_cquotient (a b c d : Nat) : Steady P (Op.Complex.quotient a b c d) := by
  unfold Op.Complex.quotient Op.Complex.add Op.Complex.sub Op.Complex.mul Op.Complex.quo
  with_reducible refine steady_bind (steady_ccmp _ _ _ _) fun q => ?_
  dsimp only
  repeat' first
    | with_reducible exact steady_ccorrected _ _ _ _ _
    | with_reducible exact steady_pure _
    | with_reducible exact steady_carith _ _ _ _
    | with_reducible exact steady_ccmp _ _ _ _
    | split
    | with_reducible refine steady_bind ?_ fun _ => ?_
theorem steady_complexOp (op : BinOp) (k : FloatKind) (a b c d : Nat) : Steady P (Op.complexOp op k a b c d) := by
  unfold Op.complexOp
  repeat' first
    | with_reducible exact steady_pure _
    | with_reducible exact steady_stuck _
    | with_reducible exact steady_carith _ _ _ _
    | with_reducible exact steady_ccmp _ _ _ _
    | with_reducible exact steady_cconv _ _ _
    | with_reducible exact steady_cproduct _ _ _ _
    | with_reducible exact steady_cquotient _ _ _ _
    | split
    | with_reducible refine steady_bind ?_ fun _ => ?_
theorem steady_unsafeAdd (ts : Array TypeId) (t : TypeId) (xs : Array Value) : Steady P (Builtin.unsafeAdd_ ts t xs) := by
  obtain ⟨l⟩ := xs
  rcases l with _ | ⟨x, _ | ⟨y, _ | ⟨z, l⟩⟩⟩
  · exact steady_stuck _
  · cases x <;> exact steady_stuck _
  · cases x
    case pointer ptr =>
      unfold Builtin.unsafeAdd_
      dsimp only
      refine steady_bind ?_ fun n => ?_
      · unfold asInt
        exact steady_bind (steady_asIntOf _) fun _ => steady_pure _
      · have rest : ∀ a : Addr, Steady P (shape a.block >>= fun s => match s with
            | some (e, cells) => do
              let p ← program
              match cellAtBytes p p.depth e (cells / p.cellsOf e) a.off n with
              | some off => pure (.pointer (some { a with off }))
              | none => unsupported (.unsafePointer "Add")
            | _ => (unsupported (.unsafePointer "Add") : Sem Value)) := fun a => by
          refine steady_shape (fun w v w1 h => by simp [unsupported, Sem.run] at h) fun s => ?_
          obtain ⟨e, c⟩ := s
          dsimp only
          refine steady_bind steady_program fun p => ?_
          split <;> first | exact steady_pure _ | exact steady_unsupported _
        repeat' first
          | with_reducible exact steady_pure _
          | with_reducible exact steady_unsupported _
          | with_reducible exact steady_viewAt _
          | with_reducible exact rest _
          | exact rest _
          | split
          | with_reducible refine steady_bind ?_ fun _ => ?_
    all_goals exact steady_stuck _
  · cases x <;> exact steady_stuck _
theorem steady_movedNumber (t : TypeId) (x y : Value) : Steady P (movedNumber t x y) := by
  unfold movedNumber
  repeat' first
    | with_reducible exact steady_pure _
    | with_reducible exact steady_unsupported _
    | with_reducible exact steady_underlying _
    | with_reducible exact steady_unsafeAdd _ _ _
    | with_reducible exact steady_behindNumber _
    | with_reducible exact steady_asNumber _ _
    | split
    | with_reducible refine steady_bind ?_ fun _ => ?_
theorem steady_movedPointer (t : TypeId) (x y : Value) : Steady P (movedPointer t x y) := by
  unfold movedPointer
  repeat' first
    | with_reducible exact steady_pure _
    | with_reducible exact steady_unsupported _
    | with_reducible exact steady_numberAt _
    | with_reducible exact steady_unsafeAdd _ _ _
    | split
    | with_reducible refine steady_bind ?_ fun _ => ?_
theorem steady_twoPlaces (a b : Addr) : Steady P (Op.twoPlaces a b) := by
  unfold Op.twoPlaces
  repeat' first
    | with_reducible exact steady_pure _
    | with_reducible exact steady_unsupported _
    | with_reducible exact steady_program
    | with_reducible exact steady_byteOf _
    | split
    | with_reducible refine steady_bind ?_ fun _ => ?_
theorem steady_addrSub (k : IntKind) (a b : Addr) : Steady P (Op.addrSub k a b) := by
  unfold Op.addrSub
  exact steady_bind (steady_twoPlaces _ _) fun _ => steady_pure _
theorem steady_addrCmp (op : BinOp) (a b : Addr) : Steady P (Op.addrCmp op a b) := by
  unfold Op.addrCmp
  refine steady_bind (steady_twoPlaces _ _) fun _ => ?_
  dsimp only
  split <;> first | exact steady_pure _ | exact steady_unsupported _
theorem steady_addrMod (k : IntKind) (a : Addr) (n : Int) : Steady P (Op.addrMod k a n) := by
  unfold Op.addrMod
  refine steady_shape (fun w v w1 h => by simp [unsupported, Sem.run] at h) fun s => ?_
  obtain ⟨e, c⟩ := s
  dsimp only
  refine steady_bind (steady_typeInfo _) fun i => ?_
  split
  · exact steady_bind (steady_unsupported _) fun _ => steady_bind (steady_byteOf _) fun _ => steady_pure _
  · exact steady_bind (steady_byteOf _) fun _ => steady_pure _
theorem steady_eqGuardIn : ∀ (d : Nat) (t : TypeId) (x y : Value), Steady P (Op.eqGuardIn d t x y)
  | 0, _, _, _ => by unfold Op.eqGuardIn; exact steady_unsupported _
  | d + 1, t, x, y => by
    unfold Op.eqGuardIn
    refine steady_bind (steady_underlying _) fun ud => ?_
    split
    · exact steady_pure _
    · refine steady_bind ?_ fun s => ?_
      · rw [← Array.forIn_toList]
        refine steady_forIn_mem _ _ _ fun f hf r => ?_
        repeat' first
          | exact steady_pure _
          | exact steady_part _ _ _
          | exact steady_eqGuardIn d _ _ _
          | split
          | refine steady_bind ?_ fun _ => ?_
      · dsimp only
        split <;> exact steady_pure _
    · refine steady_bind (steady_sizeOf _) fun m => steady_bind ?_ fun s => ?_
      · rw [Std.Legacy.Range.forIn_eq_forIn_range']
        refine steady_forIn_mem _ _ _ fun f hf r => ?_
        repeat' first
          | exact steady_pure _
          | exact steady_part _ _ _
          | exact steady_eqGuardIn d _ _ _
          | split
          | refine steady_bind ?_ fun _ => ?_
      · dsimp only
        split <;> exact steady_pure _
    · exact steady_pure _
theorem steady_eqGuard (op : BinOp) (t : TypeId) (x y : Operand) (a b : Value) : Steady P (eqGuard op t x y a b) := by
  unfold eqGuard
  repeat' first
    | with_reducible exact steady_pure _
    | with_reducible exact steady_unsupported _
    | with_reducible exact steady_program
    | with_reducible exact steady_eqGuardIn _ _ _ _
    | split
    | with_reducible refine steady_bind ?_ fun _ => ?_
/-- what two values' comparison may be taken for -/
def eqV (P : Program) (t : TypeId) (x y : Value) : Prop := Steady P (Op.equal t x y)
theorem steady_binOp (op : BinOp) (t : TypeId) (x y : Value) (h : op = .eql ∨ op = .neq → Steady P (Op.equal t x y)) : Steady P (binOp op t x y) := by
  unfold binOp
  split
  all_goals first
    | exact steady_shift _ _ _ _ _
    | exact steady_stringOp _ _ _
    | exact steady_bind (h (.inl rfl)) fun _ => steady_pure _
    | exact steady_bind (h (.inr rfl)) fun _ => steady_pure _
    | exact steady_movedNumber _ _ _
    | exact steady_stuck _
    | exact steady_unsupported _
    | exact steady_bind (steady_behindNumber _) fun _ => steady_bind (steady_behindNumber _) fun _ => steady_addrSub _ _ _
    | exact steady_bind (steady_behindNumber _) fun _ => steady_bind (steady_behindNumber _) fun _ => steady_addrCmp _ _ _
    | exact steady_bind (steady_behindNumber _) fun _ => steady_addrMod _ _ _
    | (refine steady_bind (steady_underlying _) fun _ => ?_
       split <;> first | exact steady_movedPointer _ _ _ | exact steady_movedNumber _ _ _)
    | (refine steady_ite (steady_stuck _) ?_
       first
         | exact steady_complexOp _ _ _ _ _ _
         | (split <;> first | exact steady_intArith _ _ _ _ | exact steady_intDiv _ _ _ _ | exact steady_intBits _ _ _ _ | exact steady_intCmp _ _ _ | exact steady_floatArith _ _ _ _ | exact steady_floatCmp _ _ _ _))
    | skip
end
end Go.Proofs.YtediocpdpghbfaaDoor
