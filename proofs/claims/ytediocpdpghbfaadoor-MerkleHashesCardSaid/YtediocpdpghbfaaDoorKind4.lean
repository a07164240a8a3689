/- The Bool over an operation's text that says that it only looks, and its proof. Over any program. -/
import Derived.Test.YtediocpdpghbfaaDoorKinc
set_option linter.unusedSimpArgs false
set_option linter.unusedVariables false
namespace Go.Proofs.YtediocpdpghbfaaDoor
open Go Go.RowKit

section
variable {P : Program} {α β : Type}

def isNilV : Value → Bool
  | .pointer none | .nilIface | .map none | .slice none _ _ | .nilFunc | .chan none => true
  | _ => false
theorem steady_equal_nil (t : TypeId) (x y : Value) (h : isNilV x = true ∨ isNilV y = true) : Steady P (Op.equal t x y) := by
  unfold Op.equal
  rw [show Op.maxDepth = 9999 + 1 from rfl]
  generalize 9999 = d
  unfold Op.equalIn
  refine steady_bind (steady_underlying _) fun ud => ?_
  split
  all_goals first
    | exact steady_pure _
    | exact steady_stuck _
    | exact steady_unsupported _
    | exact steady_ite (steady_pure _) (steady_stuck _)
    | (simp [isNilV] at h; done)
    | skip
  · rename_i a b
    cases a <;> cases b <;> first | exact steady_pure _ | (simp [isNilV] at h; done)
theorem steady_arrayAt (t : TypeId) (x : Value) : Steady P (Instr.arrayAt t x) := by
  unfold Instr.arrayAt
  repeat' first
    | with_reducible exact steady_pure _
    | with_reducible exact steady_stuck _
    | with_reducible exact steady_panic _
    | with_reducible exact steady_underlying _
    | split
    | with_reducible refine steady_bind ?_ fun _ => ?_
def isNilO : Operand → Bool
  | .const v => isNilV v
  | _ => false
def quietOp (P : Program) : Op → Bool
  | .move _ | .assign _ | .pick .. | .load .. | .nilCheck _ | .unOp .. | .fieldAddr .. | .field .. | .indexAddr .. | .index .. | .slice .. | .extract .. | .makeInterface .. | .build .. | .sliceToArrayPointer .. => true
  | .binOp op t x y _ => match op with
    | .eql | .neq => eqT P 8 t || isNilO x || isNilO y
    | _ => true
  | .convert src dst _ => match P.underlying src, P.underlying dst with
    | some (.int _), some (.int _) | some (.int _), some .string | some .string, some .string | some (.slice _), some .string => true
    | _, _ => false
  | .call ⟨.builtin .len, _, _⟩ | .call ⟨.builtin .cap, _, _⟩ => true
  | _ => false

/-- a run that reads constants as they are -/
def Reads (ρ : Operand → Value) : Prop := ∀ v, ρ (.const v) = v
theorem reads_eval (a : Act) : Reads a.eval := fun _ => rfl
theorem steady_bytes (x : Value) : Steady P (Conv.bytesToString x) := by
  unfold Conv.bytesToString
  split
  · exact steady_pure _
  · refine steady_bind (steady_loadCellsFrom _ _ _ _) fun cs => steady_bind ?_ fun s => steady_pure _
    rw [← Array.forIn_toList]
    refine steady_forIn_mem _ _ _ fun c _ b => ?_
    split
    · exact steady_pure _
    · exact steady_stuck _
  · exact steady_stuck _
theorem steady_runes (x : Value) : Steady P (Conv.runesToString x) := by
  unfold Conv.runesToString
  split
  · exact steady_pure _
  · refine steady_bind (steady_loadCellsFrom _ _ _ _) fun cs => steady_bind ?_ fun s => steady_pure _
    rw [← Array.forIn_toList]
    refine steady_forIn_mem _ _ _ fun c _ b => ?_
    split
    · exact steady_pure _
    · exact steady_stuck _
  · exact steady_stuck _
theorem steady_floatToInt (s : FloatKind) (b : Nat) (k : IntKind) : Steady P (Conv.floatToInt s b k) := by
  unfold Conv.floatToInt
  dsimp only
  repeat' first
    | with_reducible exact steady_pure _
    | with_reducible exact steady_choose _
    | split
    | with_reducible refine steady_bind ?_ fun _ => ?_
theorem steady_convert (src dst : TypeId) (x : Value) (h : (match P.underlying src, P.underlying dst with
    | some (.int _), some (.int _) | some (.int _), some .string | some .string, some .string | some (.slice _), some .string => true
    | _, _ => false) = true) : Steady P (convert src dst x) := by
  unfold convert
  refine steady_underlying_bind fun s hs => steady_underlying_bind fun d hd => ?_
  rw [hs, hd] at h
  split
  all_goals first
    | exact steady_pure _
    | exact steady_stuck _
    | exact steady_unsupported _
    | exact steady_floatToInt _ _ _
    | (simp at h; done)
    | (unfold Conv.intToInt; exact steady_pure _)
    | (unfold Conv.intToString; exact steady_pure _)
    | skip
  · refine steady_bind (steady_underlying _) fun e => ?_
    split <;> first | exact steady_bytes _ | exact steady_runes _ | exact steady_stuck _
theorem steady_len (ts : Array TypeId) (t : TypeId) (xs : Array Value) : Steady P (Builtin.len_ ts t xs) := by
  unfold Builtin.len_
  repeat' first
    | with_reducible exact steady_pure _
    | with_reducible exact steady_stuck _
    | with_reducible exact steady_underlying _
    | with_reducible exact steady_getObj _
    | split
    | with_reducible refine steady_bind ?_ fun _ => ?_
theorem steady_cap (ts : Array TypeId) (t : TypeId) (xs : Array Value) : Steady P (Builtin.cap_ ts t xs) := by
  unfold Builtin.cap_
  repeat' first
    | with_reducible exact steady_pure _
    | with_reducible exact steady_stuck _
    | with_reducible exact steady_underlying _
    | with_reducible exact steady_getObj _
    | split
    | with_reducible refine steady_bind ?_ fun _ => ?_
theorem steady_value {x : Sem Value} (h : Steady P x) : Steady P (x >>= fun v => (pure (.value v) : Sem Next)) := steady_bind h fun _ => steady_pure _
/-- what a quiet operation yields -/
theorem steady_exec {ρ : Operand → Value} (hρ : Reads ρ) (o : Oper) (h : quietOp P o.op = true) : Steady P (execOp ρ o) := by
  obtain ⟨dst, op, type, pos, after, guard⟩ := o
  cases op <;> (try (simp [quietOp] at h; done)) <;> simp only [quietOp] at h <;> unfold execOp <;> dsimp only
  case move x => exact steady_pure _
  case assign x => exact steady_pure _
  case pick c a b => exact steady_bind (steady_asBool _) fun _ => by split <;> exact steady_pure _
  case build t ps => exact steady_value (steady_build _ _)
  case load t a => exact steady_value (steady_loadAt _ _)
  case unOp => exact steady_value (steady_unary _ _)
  case fieldAddr => exact steady_value (steady_fieldAt _ _ _)
  case field => exact steady_value (steady_field _ _ _)
  case indexAddr => exact steady_value (steady_indexAt _ _ _)
  case index => exact steady_value (steady_index _ _ _)
  case slice => exact steady_value (steady_sliceAt _ _ _ _ _)
  case extract => exact steady_value (steady_extract _ _)
  case sliceToArrayPointer => exact steady_value (steady_arrayAt _ _)
  case makeInterface => exact steady_value (steady_makeInterface _ _)
  case nilCheck x =>
    split
    all_goals first
      | exact steady_panic _
      | (split
         all_goals first
           | exact steady_panic _
           | exact steady_pure _
           | (refine steady_bind steady_program fun p => steady_bind (steady_nilAhead _ _ _ _) fun r => ?_
              split
              · exact steady_bind (steady_unsupported _) fun _ => steady_pure _
              · exact steady_pure _))
      | exact steady_pure _
  case binOp op t x y u =>
    refine steady_bind (steady_bind (steady_eqGuard _ _ _ _ _ _) fun _ => steady_binOp _ _ _ _ ?_) fun _ => steady_pure _
    intro hop
    have h' : (eqT P 8 t || isNilO x || isNilO y) = true := by
      rcases hop with rfl | rfl <;> exact h
    rw [Bool.or_eq_true, Bool.or_eq_true] at h'
    rcases h' with (h1 | h1) | h1
    · exact steady_equalIn 8 _ _ _ _ h1
    · refine steady_equal_nil _ _ _ (.inl ?_)
      cases x <;> simp [isNilO] at h1
      rw [hρ]; exact h1
    · refine steady_equal_nil _ _ _ (.inr ?_)
      cases y <;> simp [isNilO] at h1
      rw [hρ]; exact h1
  case convert => exact steady_value (steady_convert _ _ _ h)
  case call c =>
    obtain ⟨callee, args, ts⟩ := c
    cases callee <;> (try (simp at h; done))
    rename_i b
    cases b <;> (try (simp at h; done))
    · exact steady_value (steady_cap _ _ _)
    · exact steady_value (steady_len _ _ _)
end
end Go.Proofs.YtediocpdpghbfaaDoor
