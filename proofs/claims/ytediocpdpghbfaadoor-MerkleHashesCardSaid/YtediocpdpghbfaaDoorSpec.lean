/- SHA-256 as plain functions on lists of numbers. No program in sight. -/
import Derived.Test.YtediocpdpghbfaaDoorMem
set_option linter.unusedSimpArgs false
set_option linter.unusedVariables false
namespace Go.Proofs.YtediocpdpghbfaaDoor

/-- the number that the first j bytes of word i spell -/
def part (b : List Nat) (i : Nat) : Nat → Nat
  | 0 => 0
  | j + 1 => part b i j * 256 + b.getD (4 * i + j) 0
def word (b : List Nat) (i : Nat) : Nat := part b i 4
def s0 (x : Nat) : Nat := rotr x 7 ^^^ rotr x 18 ^^^ (x / 8)
def s1 (x : Nat) : Nat := rotr x 17 ^^^ rotr x 19 ^^^ (x / 1024)
def words (b : List Nat) (n : Nat) : List Nat := (List.range n).map (word b)
/-- the next word of the message schedule -/
def nextW (l : List Nat) : Nat := (s1 (l.getD (l.length - 2) 0) + l.getD (l.length - 7) 0 + s0 (l.getD (l.length - 15) 0) + l.getD (l.length - 16) 0) % 4294967296
def ext (l : List Nat) : Nat → List Nat
  | 0 => l
  | n + 1 => ext l n ++ [nextW (ext l n)]
def sched (b : List Nat) : List Nat := ext (words b 16) 48

/-- bytes -/
def Bytes (b : List Nat) : Prop := ∀ i, b.getD i 0 < 256
def Words (b : List Nat) : Prop := ∀ i, b.getD i 0 < 4294967296

theorem part_lt (b : List Nat) (hb : Bytes b) (i j : Nat) : part b i j < 256 ^ j := by
  induction j with
  | zero => simp [part]
  | succ j ih =>
    have := hb (4 * i + j)
    rw [part, Nat.pow_succ]
    omega
theorem word_lt (b : List Nat) (hb : Bytes b) (i : Nat) : word b i < 4294967296 := part_lt b hb i 4
theorem words_length (b : List Nat) (n : Nat) : (words b n).length = n := by simp [words]
theorem words_succ (b : List Nat) (n : Nat) : words b (n + 1) = words b n ++ [word b n] := by simp [words, List.range_succ]
theorem ext_length (l : List Nat) (n : Nat) : (ext l n).length = l.length + n := by
  induction n with
  | zero => rfl
  | succ n ih => simp [ext, ih]; omega
theorem sched_length (b : List Nat) : (sched b).length = 64 := by simp [sched, ext_length, words_length]

theorem words_of_mem {l : List Nat} (h : ∀ x ∈ l, x < 4294967296) : Words l := by
  intro i
  rcases Nat.lt_or_ge i l.length with hi | hi
  · rw [List.getD_eq_getElem?_getD, List.getElem?_eq_getElem hi]; exact h _ (List.getElem_mem hi)
  · rw [List.getD_eq_getElem?_getD, List.getElem?_eq_none hi]; simp
theorem mem_of_words {l : List Nat} (h : Words l) : ∀ x ∈ l, x < 4294967296 := by
  intro x hx
  obtain ⟨i, hi, rfl⟩ := List.getElem_of_mem hx
  have := h i
  rwa [List.getD_eq_getElem?_getD, List.getElem?_eq_getElem hi] at this
theorem words_words (b : List Nat) (hb : Bytes b) (n : Nat) : Words (words b n) := by
  refine words_of_mem fun x hx => ?_
  simp only [words, List.mem_map] at hx
  obtain ⟨i, _, rfl⟩ := hx
  exact word_lt b hb i
theorem nextW_lt (l : List Nat) : nextW l < 4294967296 := Nat.mod_lt _ (by omega)
theorem words_ext (l : List Nat) (h : Words l) (n : Nat) : Words (ext l n) := by
  induction n with
  | zero => exact h
  | succ n ih =>
    refine words_of_mem fun x hx => ?_
    simp only [ext, List.mem_append, List.mem_singleton] at hx
    rcases hx with hx | rfl
    · exact mem_of_words ih x hx
    · exact nextW_lt _

/-! ### the array in which the schedule grows -/
/-- the list l, filled up with zeros to 64 -/
def pad64 (l : List Nat) : List Nat := l ++ List.replicate (64 - l.length) 0
theorem pad64_length (l : List Nat) (h : l.length ≤ 64) : (pad64 l).length = 64 := by simp [pad64]; omega
theorem pad64_getD (l : List Nat) (i : Nat) (h : i < l.length) : (pad64 l).getD i 0 = l.getD i 0 := by
  simp only [pad64, List.getD_eq_getElem?_getD, List.getElem?_append_left h]
theorem pad64_set (l : List Nat) (x : Nat) (h : l.length < 64) : (pad64 l).set l.length x = pad64 (l ++ [x]) := by
  obtain ⟨k, hk⟩ : ∃ k, 64 - l.length = k + 1 := ⟨63 - l.length, by omega⟩
  have hk' : 64 - (l ++ [x]).length = k := by simp; omega
  rw [pad64, pad64, hk, hk', List.replicate_succ, List.set_append_right _ _ (Nat.le_refl _)]
  simp
theorem pad64_full (l : List Nat) (h : l.length = 64) : pad64 l = l := by simp [pad64, h]
theorem set_same (l : List Nat) (i x y : Nat) : (l.set i x).set i y = l.set i y := by simp

/-! ### the compression -/
def big0 (a : Nat) : Nat := rotr a 2 ^^^ rotr a 13 ^^^ rotr a 22
def big1 (e : Nat) : Nat := rotr e 6 ^^^ rotr e 11 ^^^ rotr e 25
def ch (e f g : Nat) : Nat := (e &&& f) ^^^ ((4294967295 - e) &&& g)
def maj (a b c : Nat) : Nat := (a &&& b) ^^^ (a &&& c) ^^^ (b &&& c)
def t1 (s : List Nat) (k w : Nat) : Nat := (s.getD 7 0 + big1 (s.getD 4 0) + ch (s.getD 4 0) (s.getD 5 0) (s.getD 6 0) + k + w) % 4294967296
def t2 (s : List Nat) : Nat := (big0 (s.getD 0 0) + maj (s.getD 0 0) (s.getD 1 0) (s.getD 2 0)) % 4294967296
def rnd (s : List Nat) (k w : Nat) : List Nat :=
  [(t1 s k w + t2 s) % 4294967296, s.getD 0 0, s.getD 1 0, s.getD 2 0, (s.getD 3 0 + t1 s k w) % 4294967296, s.getD 4 0, s.getD 5 0, s.getD 6 0]
/-- the state behind n rounds -/
def rnds (K W s : List Nat) : Nat → List Nat
  | 0 => s
  | n + 1 => rnd (rnds K W s n) (K.getD n 0) (W.getD n 0)
def addUp (v s : List Nat) : List Nat := (List.range 8).map fun i => (v.getD i 0 + s.getD i 0) % 4294967296
def compress (K s b : List Nat) : List Nat := addUp (rnds K (sched b) s 64) s
end Go.Proofs.YtediocpdpghbfaaDoor
