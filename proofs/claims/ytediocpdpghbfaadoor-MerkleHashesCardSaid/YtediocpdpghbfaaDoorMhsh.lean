/- Merkle: slices of digests that the call owns; append of one digest. -/
import Derived.Test.YtediocpdpghbfaaDoorMrot
import Derived.Great.FillDense
set_option linter.unusedSimpArgs false
set_option linter.unusedVariables false
namespace Go.Proofs.YtediocpdpghbfaaDoor
open Go Go.RowKit

theorem info25 : (Tryd.prog.info? 25).map (fun i => (i.zero, i.size, i.bytes)) = some (some (.agg (u8s (zer 32))), 32, 32) := by kernel_rfl
/-- digests: each 32 bytes -/
def Digs (hs : List (List Nat)) : Prop := ∀ h ∈ hs, h.length = 32 ∧ Bytes h
theorem Digs.nil : Digs [] := fun _ h => by cases h
theorem Digs.snoc {hs : List (List Nat)} {d : List Nat} (h : Digs hs) (hd : d.length = 32) (hB : Bytes d) : Digs (hs ++ [d]) := fun x hx => by
  rcases List.mem_append.1 hx with hx | hx
  · exact h x hx
  · obtain rfl : x = d := by simpa using hx
    exact ⟨hd, hB⟩
theorem Digs.append {a b : List (List Nat)} (h : Digs a) (k : Digs b) : Digs (a ++ b) := fun x hx => by
  rcases List.mem_append.1 hx with hx | hx
  · exact h x hx
  · exact k x hx
def hcell (hs : List (List Nat)) : List Value := hs.flatMap bvals
/-- a slice value of the call's own that holds the digests hs -/
def OH (w : World) (base : Nat) (A : Option Addr) (n cap : Nat) (hs : List (List Nat)) : Prop := hs.length = n ∧ Digs hs ∧ w.ownsRow base 25 32 (.slice A n cap) n (hcell hs)
theorem oh_nil (w : World) (base : Nat) : OH w base none 0 0 [] := ⟨rfl, Digs.nil, rfl, .inl ⟨rfl, rfl⟩⟩
theorem OH.below {w w' : World} {base : Nat} {A : Option Addr} {n cap : Nat} {hs : List (List Nat)} (h : OH w base A n cap hs) (hb : Below w.heap.size w w') : OH w' base A n cap hs := by
  refine ⟨h.1, h.2.1, h.2.2.1, ?_⟩
  rcases h.2.2.2 with h2 | ⟨k, cap', cur, hv, hk, hh, h3, h4, h5, h6⟩
  · exact .inl h2
  · exact .inr ⟨k, cap', cur, hv, hk, (hb.block k (Array.getElem?_eq_some_iff.1 hh).1).trans hh, h3, h4, h5, h6⟩
theorem OH.drew {w : World} {base : Nat} {A : Option Addr} {n cap : Nat} {hs : List (List Nat)} (h : OH w base A n cap hs) : OH w.drew base A n cap hs := h.below ((Below.refl _ _).drew)
theorem OH.setCell {w : World} {base : Nat} {A : Option Addr} {n cap : Nat} {hs : List (List Nat)} (h : OH w base A n cap hs) {p : Addr} (hp : p.block < base) (u : Value) : OH (w.setCell p u) base A n cap hs := by
  refine ⟨h.1, h.2.1, h.2.2.1, ?_⟩
  rcases h.2.2.2 with h2 | ⟨k, cap', cur, hv, hk, hh, h3, h4, h5, h6⟩
  · exact .inl h2
  · exact .inr ⟨k, cap', cur, hv, hk, (Below.heap_setCell w p u k (by omega)).trans hh, h3, h4, h5, h6⟩
theorem OH.cap_le {w : World} {base : Nat} {A : Option Addr} {n cap : Nat} {hs : List (List Nat)} (h : OH w base A n cap hs) : n ≤ cap ∧ cap ≤ maxLen := by
  rcases h.2.2.2 with ⟨hv, hn⟩ | ⟨g, cap', cur, hv, _, _, hle, hm, _⟩
  · injection hv with _ e2 e3; unfold maxLen; omega
  · injection hv with _ _ e3; omega
theorem hcell_length (hs : List (List Nat)) (h : Digs hs) : (hcell hs).length = 32 * hs.length := by
  induction hs with
  | nil => rfl
  | cons a hs ih =>
    have h1 := (h a (List.mem_cons_self ..)).1
    have h2 := ih (fun x hx => h x (List.mem_cons_of_mem _ hx))
    unfold hcell at *
    rw [List.flatMap_cons, List.length_append, bvals_length, h1, h2, List.length_cons]; omega
theorem u8s_bvals (d : List Nat) : (u8s d).toList = bvals d := by simp [u8s, bvals]
/-- append(s, d) for one digest that was just laid into a block of its own -/
theorem wpList_apph {w : World} {ops : Array Oper} {rest : List Oper} {o : Oper} {a : Act} {Q : Exit → Act → World → Prop} (hgd : o.guard = none) (s x : Operand)
    (ho : o.op = .call { callee := .builtin .append, args := #[s, x], argTypes := #[67, 67] }) (base : Nat) (A : Option Addr) (n cap : Nat) (hs : List (List Nat)) (hsv : a.eval s = .slice A n cap) (hown : OH w base A n cap hs)
    (g : Nat) (d : List Nat) (hx : a.eval x = .slice (some ⟨g, 0, none⟩) 1 1) (hE : Blk w g 25 (u8s d)) (hd : d.length = 32) (hB : Bytes d) (hlen : n ≤ 1000000) (hbase : base ≤ w.heap.size)
    (h : ∀ A' cap' w', OH w' base A' (n + 1) cap' (hs ++ [d]) → Below base w w' → wpList Tryd.prog ops Q rest (a.put o.dst (.slice A' (n + 1) cap')) w') : wpList Tryd.prog ops Q (o :: rest) a w := by
  obtain ⟨i0, hi0, hz0, hz1, hz2⟩ := info_parts info25
  refine wpList_append_own _ hgd s x 67 ho base 25 i0 _ 32 32 Tryd.underlying67 hi0 hz0 hz1 hz2 rfl (by decide) (.slice A n cap) n (hcell hs) hsv hown.2.2 ⟨g, 0, none⟩ 1 1 (bvals d) hx (by rw [bvals_length, hd]) ?_ ?_
    (by unfold maxLen; omega) (by omega) hbase ?_
  · intro j u hj
    rw [addr_add, hE.cell, Nat.zero_add, ← hj, ← u8s_bvals]; simp
  · intro u hu; simp only [bvals, List.mem_map] at hu; obtain ⟨x, _, rfl⟩ := hu; rfl
  · intro v' w' hown' hg hnil
    obtain ⟨A', cap', rfl⟩ : ∃ A' cap', v' = .slice A' (n + 1) cap' := by
      rcases hown'.2 with ⟨rfl, hx⟩ | ⟨g, cap, cur, rfl, _⟩
      · exact ⟨none, 0, by rw [hx]⟩
      · exact ⟨_, cap, rfl⟩
    refine h A' cap' w' ⟨by rw [List.length_append, hown.1]; rfl, hown.2.1.snoc hd hB, ?_⟩ ((Below.refl _ _).grown hg hbase (fun k hk => (hown.2.2.lt k hk).1))
    have e : hcell (hs ++ [d]) = hcell hs ++ bvals d := by simp [hcell]
    rw [e]; exact hown'
/-! a slice of one digest, laid by a literal -/
def bs67 (ps : Array (Nat × Value)) : Sem Value := Instr.buildSlice 67 1 ps
theorem bs67_rule (ps : Array (Nat × Value)) : Instr.buildSlice 67 1 ps = bs67 ps := rfl
theorem bs67_run (d : List Nat) (hd : d.length = 32) (w : World) : (bs67 #[(0, .agg (u8s d))]).run Tryd.prog w = .ok (.slice (some ⟨w.heap.size, 0, none⟩) 1 1) (w.alloc (.cells (u8s d) 25)) := by
  obtain ⟨i0, hi0, hz0, hz1, hz2⟩ := info_parts info25
  have hsz : (Value.agg (u8s d)).cells.size = 32 := by simp [Value.cells, u8s_size, hd]
  have hone : ∀ v ∈ [Value.agg (u8s d)], v.cells.size = 32 := fun v hv => by
    obtain rfl : v = Value.agg (u8s d) := by simpa using hv
    exact hsz
  have hf := Go.Great.fill_whole (s := 32) (by omega) [Value.agg (u8s d)] ((Array.range (1 * 32)).map (fun j => (u8s (zer 32))[j % (u8s (zer 32)).size]!)) hone (by simp)
  have hc : ([Value.agg (u8s d)].flatMap fun v => v.cells.toList).toArray = u8s d := by simp [Value.cells]
  rw [hc] at hf
  have hl : (([Value.agg (u8s d)].zipIdx 0).map fun x => (x.2, x.1)) = [(0, Value.agg (u8s d))] := rfl
  rw [hl] at hf
  have hso : (sizeOf 25).run Tryd.prog w = .ok 32 w := by simp [sizeOf, typeInfo, hi0, hz1]
  have hzv : (zeroValue 25).run Tryd.prog w = .ok (.agg (u8s (zer 32))) w := by simp [zeroValue, typeInfo, hi0, hz0]
  have e1 : (Value.agg (u8s (zer 32))).cells = u8s (zer 32) := rfl
  unfold bs67 Instr.buildSlice
  simp only [Sem.run_bind, run_underlying Tryd.underlying67, Result.andThen_ok, hso]
  rw [if_neg (by omega)]
  rw [if_neg (by omega)]
  simp only [Sem.run_bind, hzv, Result.andThen_ok, Sem.run_pure, e1, hf]
  simp [newRow]
end Go.Proofs.YtediocpdpghbfaaDoor
