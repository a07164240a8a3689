/- Which operations only look, continued: comparison, conversion, len and cap; the Bool over an operation's text. Over any program. -/
import Derived.Test.YtediocpdpghbfaaDoorKind
set_option linter.unusedSimpArgs false
set_option linter.unusedVariables false
namespace Go.Proofs.YtediocpdpghbfaaDoor
open Go Go.RowKit

section
variable {P : Program} {α β : Type}

theorem steady_underlying_bind {t : TypeId} {f : TypeDesc → Sem α} (h : ∀ d, P.underlying t = some d → Steady P (f d)) : Steady P (underlying t >>= f) := by
  intro w v w1 e
  unfold underlying at e ⊢
  simp only [Sem.run_bind, program, Sem.run, Result.andThen] at e ⊢
  cases hd : P.underlying t with
  | none => rw [hd] at e; simp [stuck, Sem.run] at e
  | some d =>
    rw [hd] at e
    have := h d hd w v w1 (by simpa [Sem.run_pure] using e)
    simpa [Sem.run_pure] using this
theorem steady_typeInfo_bind {t : TypeId} {f : TypeInfo → Sem α} (h : ∀ d, P.info? t = some d → Steady P (f d)) : Steady P (typeInfo t >>= f) := by
  intro w v w1 e
  unfold typeInfo at e ⊢
  simp only [Sem.run_bind, program, Sem.run, Result.andThen] at e ⊢
  cases hd : P.info? t with
  | none => rw [hd] at e; simp [stuck, Sem.run] at e
  | some d =>
    rw [hd] at e
    have := h d hd w v w1 (by simpa [Sem.run_pure] using e)
    simpa [Sem.run_pure] using this
theorem steady_forIn_mem {δ : Type} (f : δ → β → Sem (ForInStep β)) : ∀ (l : List δ) (b : β), (∀ a ∈ l, ∀ b, Steady P (f a b)) → Steady P (forIn l b f)
  | [], b, _ => by rw [List.forIn_nil]; exact steady_pure _
  | a :: l, b, hf => by
    rw [List.forIn_cons]
    refine steady_bind (hf a (List.mem_cons_self ..) b) fun s => ?_
    cases s with
    | done b' => exact steady_pure _
    | yield b' => exact steady_forIn_mem f l b' fun a ha => hf a (List.mem_cons_of_mem _ ha)
/-- a type whose equality looks at no address -/
def eqT (P : Program) : Nat → TypeId → Bool
  | 0, _ => false
  | n + 1, t => match P.underlying t with
    | some .bool | some (.int _) | some (.float _) | some (.complex _) | some .string | some (.slice _) | some (.map _ _) | some (.func _ _ _) | some (.chan _ _) => true
    | some (.struct fs) => fs.toList.all fun f => eqT P n f.type
    | some (.array _ e) => eqT P n e
    | _ => false
theorem steady_equalIn : ∀ (n d : Nat) (t : TypeId) (x y : Value), eqT P n t = true → Steady P (Op.equalIn d t x y)
  | 0, _, _, _, _, h => by simp [eqT] at h
  | _ + 1, 0, _, _, _, _ => by unfold Op.equalIn; exact steady_unsupported _
  | n + 1, d + 1, t, x, y, h => by
    unfold Op.equalIn
    refine steady_underlying_bind fun ud hu => ?_
    unfold eqT at h
    rw [hu] at h
    split
    all_goals first
      | exact steady_pure _
      | exact steady_stuck _
      | exact steady_unsupported _
      | (simp at h; done)
      | exact steady_ite (steady_pure _) (steady_stuck _)
      | skip
    · refine steady_bind (steady_behindNumber _) fun a => steady_bind (steady_behindNumber _) fun b => ?_
      dsimp only
      refine steady_bind steady_program fun p => ?_
      split
      · exact steady_bind (steady_byteOf _) fun _ => steady_bind (steady_byteOf _) fun _ => steady_pure _
      · refine steady_bind (steady_typeInfo _) fun i => ?_
        split
        · exact steady_ite (steady_pure _) (steady_unsupported _)
        · exact steady_unsupported _
    · rename_i fields xs ys
      simp only at h
      refine steady_bind steady_program fun p => ?_
      have fin : ∀ r : Option Bool, Steady P (match r with | some b => (pure b : Sem Bool) | none => pure true) := fun r => by cases r <;> exact steady_pure _
      refine steady_ite (steady_bind (steady_unsupported _) fun _ => ?_) ?_
      all_goals
        refine steady_bind ?_ fun s => ?_
        · rw [← Array.forIn_toList]
          refine steady_forIn_mem _ _ _ fun f hf r => ?_
          have he : eqT P n f.type = true := List.all_eq_true.1 h f hf
          repeat' first
            | exact steady_pure _
            | exact steady_part _ _ _
            | exact steady_equalIn n d _ _ _ he
            | split
            | refine steady_bind ?_ fun _ => ?_
        · dsimp only
          split <;> exact steady_pure _
    · rename_i len elem xs ys
      simp only at h
      refine steady_bind (steady_sizeOf _) fun m => steady_bind ?_ fun s => ?_
      · rw [Std.Legacy.Range.forIn_eq_forIn_range']
        refine steady_forIn_mem _ _ _ fun f hf r => ?_
        repeat' first
          | exact steady_pure _
          | exact steady_part _ _ _
          | exact steady_equalIn n d _ _ _ h
          | split
          | refine steady_bind ?_ fun _ => ?_
      · dsimp only
        split <;> exact steady_pure _
end
end Go.Proofs.YtediocpdpghbfaaDoor
