/- SHA-256 of a whole message, as plain functions on lists of numbers. No program in sight. -/
import Derived.Test.YtediocpdpghbfaaDoorComp
set_option linter.unusedSimpArgs false
set_option linter.unusedVariables false
namespace Go.Proofs.YtediocpdpghbfaaDoor

/-- the eight bytes of a number below 2^64, the greatest first -/
def be8 (x : Nat) : List Nat := (List.range 8).map fun i => x / 2 ^ (56 - 8 * i) % 256
/-- the number of bytes ahead of the length in the padding -/
def padSize (n : Nat) : Nat := 64 - (n + 8) % 64
def padL (n : Nat) : List Nat := 128 :: (List.replicate (padSize n - 1) 0 ++ be8 (n * 8 % 18446744073709551616))
theorem padSize_pos (n : Nat) : 1 ≤ padSize n ∧ padSize n ≤ 64 := by unfold padSize; omega
theorem padL_length (n : Nat) : (padL n).length = padSize n + 8 := by
  have := padSize_pos n
  simp [padL, be8]; omega
theorem padL_mod (n : Nat) : (n + (padL n).length) % 64 = 0 := by rw [padL_length]; unfold padSize; omega

/-- block i of a message -/
def blk (m : List Nat) (i : Nat) : List Nat := (m.drop (64 * i)).take 64
/-- the state behind i blocks of a message -/
def states (st m : List Nat) : Nat → List Nat
  | 0 => st
  | i + 1 => compress KK (states st m i) (blk m i)
def digest (st : List Nat) : List Nat := (List.range 32).map fun i => st.getD (i / 4) 0 / 2 ^ (24 - 8 * (i % 4)) % 256
def padded (m : List Nat) : List Nat := m ++ padL m.length
/-- THE DIGEST OF A MESSAGE -/
def sha (m : List Nat) : List Nat := digest (states HH (padded m) ((padded m).length / 64))

theorem Bytes.of_mem {l : List Nat} (h : ∀ x ∈ l, x < 256) : Bytes l := by
  intro i
  rcases Nat.lt_or_ge i l.length with hi | hi
  · rw [List.getD_eq_getElem?_getD, List.getElem?_eq_getElem hi]; exact h _ (List.getElem_mem hi)
  · rw [List.getD_eq_getElem?_getD, List.getElem?_eq_none hi]; simp
theorem Bytes.mem {l : List Nat} (h : Bytes l) : ∀ x ∈ l, x < 256 := by
  intro x hx
  obtain ⟨i, hi, rfl⟩ := List.getElem_of_mem hx
  have := h i
  rwa [List.getD_eq_getElem?_getD, List.getElem?_eq_getElem hi] at this
theorem Bytes.append {l r : List Nat} (hl : Bytes l) (hr : Bytes r) : Bytes (l ++ r) :=
  Bytes.of_mem fun x hx => by exact (List.mem_append.1 hx).elim (hl.mem x) (hr.mem x)
theorem Bytes.take {l : List Nat} (hl : Bytes l) (n : Nat) : Bytes (l.take n) := Bytes.of_mem fun x hx => hl.mem x (List.mem_of_mem_take hx)
theorem Bytes.drop {l : List Nat} (hl : Bytes l) (n : Nat) : Bytes (l.drop n) := Bytes.of_mem fun x hx => hl.mem x (List.mem_of_mem_drop hx)
theorem Bytes.nil : Bytes [] := Bytes.of_mem fun x hx => by simp at hx
theorem Bytes.blk {m : List Nat} (h : Bytes m) (i : Nat) : Bytes (blk m i) := (h.drop _).take _
theorem Bytes.padL (n : Nat) : Bytes (padL n) := by
  refine Bytes.of_mem fun x hx => ?_
  simp only [YtediocpdpghbfaaDoor.padL, be8, List.mem_cons, List.mem_append, List.mem_replicate, List.mem_map] at hx
  rcases hx with rfl | ⟨_, rfl⟩ | ⟨i, _, rfl⟩
  · omega
  · omega
  · exact Nat.mod_lt _ (by omega)
theorem Bytes.digest (st : List Nat) : Bytes (digest st) := by
  refine Bytes.of_mem fun x hx => ?_
  simp only [YtediocpdpghbfaaDoor.digest, List.mem_map] at hx
  obtain ⟨i, _, rfl⟩ := hx
  exact Nat.mod_lt _ (by omega)
theorem Bytes.sha (m : List Nat) : Bytes (sha m) := Bytes.digest _
theorem sha_length (m : List Nat) : (sha m).length = 32 := by simp [sha, digest]

theorem addUp_words (v s : List Nat) : Words (addUp v s) := by
  refine words_of_mem fun x hx => ?_
  simp only [addUp, List.mem_map] at hx
  obtain ⟨i, _, rfl⟩ := hx
  exact Nat.mod_lt _ (by omega)
theorem compress_words (K s b : List Nat) : Words (compress K s b) := addUp_words _ _
theorem compress_length (K s b : List Nat) : (compress K s b).length = 8 := by simp [compress, addUp]
theorem states_words {st : List Nat} (h : Words st) (m : List Nat) (i : Nat) : Words (states st m i) := by
  cases i with
  | zero => exact h
  | succ i => exact compress_words _ _ _
theorem states_length {st : List Nat} (h : st.length = 8) (m : List Nat) (i : Nat) : (states st m i).length = 8 := by
  cases i with
  | zero => exact h
  | succ i => exact compress_length _ _ _
theorem blk_append (m x : List Nat) (i : Nat) (h : 64 * (i + 1) ≤ m.length) : blk (m ++ x) i = blk m i := by
  simp only [blk]
  rw [List.drop_append_of_le_length (by omega), List.take_append_of_le_length (by rw [List.length_drop]; omega)]
theorem states_append (st m x : List Nat) (i : Nat) (h : 64 * i ≤ m.length) : states st (m ++ x) i = states st m i := by
  induction i with
  | zero => rfl
  | succ i ih => rw [states, states, ih (by omega), blk_append _ _ _ h]

/-! ### the known digests, by the kernel -/
theorem sha_nil : sha [] = [0xe3, 0xb0, 0xc4, 0x42, 0x98, 0xfc, 0x1c, 0x14, 0x9a, 0xfb, 0xf4, 0xc8, 0x99, 0x6f, 0xb9, 0x24, 0x27, 0xae, 0x41, 0xe4, 0x64, 0x9b, 0x93, 0x4c, 0xa4, 0x95, 0x99, 0x1b, 0x78, 0x52, 0xb8, 0x55] := by decide +kernel
theorem sha_abc : sha [97, 98, 99] = [0xba, 0x78, 0x16, 0xbf, 0x8f, 0x01, 0xcf, 0xea, 0x41, 0x41, 0x40, 0xde, 0x5d, 0xae, 0x22, 0x23, 0xb0, 0x03, 0x61, 0xa3, 0x96, 0x17, 0x7a, 0x9c, 0xb4, 0x10, 0xff, 0x61, 0xf2, 0x00, 0x15, 0xad] := by decide +kernel
end Go.Proofs.YtediocpdpghbfaaDoor
