/- The derivation of the constants of SHA-256 from primes, as plain functions; the kernel computes them. No program in sight. -/
import Derived.Test.YtediocpdpghbfaaDoorComp
set_option linter.unusedSimpArgs false
set_option linter.unusedVariables false
namespace Go.Proofs.YtediocpdpghbfaaDoor

/-- the inner loop of mul: digit k of b times the digit ai, from the place i on; 'none': the fuel is spent, a place lies outside, or a number does not fit -/
def innerL (ai : Nat) (b : List Nat) (i : Nat) : Nat → Nat → Nat → List Nat → Option (List Nat)
  | 0, _, _, _ => none
  | f + 1, k, c, o =>
    if k < b.length ∨ 0 < c then
      if i + k < o.length ∧ o.getD (i + k) 0 + c + ai * b.getD k 0 < 18446744073709551616 then
        innerL ai b i f (k + 1) ((o.getD (i + k) 0 + c + ai * b.getD k 0) / 65536) (o.set (i + k) ((o.getD (i + k) 0 + c + ai * b.getD k 0) % 65536))
      else none
    else some o
/-- the outer loop: n digits of a are still to come, the next is digit i -/
def outerL (a b : List Nat) (F : Nat) : Nat → Nat → List Nat → Option (List Nat)
  | 0, _, o => some o
  | n + 1, i, o => match innerL (a.getD i 0) b i F 0 0 o with
    | some o' => outerL a b F n (i + 1) o'
    | none => none
def mulL (a b : List Nat) : Option (List Nat) := outerL a b (a.length + b.length + 2) a.length 0 (List.replicate (a.length + b.length + 1) 0)
/-- n digits are still to be compared -/
def gtL (a b : List Nat) : Nat → Bool
  | 0 => false
  | n + 1 => if a.getD n 0 = b.getD n 0 then gtL a b n else decide (b.getD n 0 < a.getD n 0)
def greaterL (a b : List Nat) : Bool := gtL a b (a.length + b.length + 1)
def ofL (n : Nat) : List Nat := [n % 65536, n / 65536 % 65536, n / 4294967296 % 65536, n / 281474976710656]
/-- the product of the power and n times y -/
def powL (y : Nat) : Nat → List Nat → Option (List Nat)
  | 0, pw => some pw
  | n + 1, pw => match mulL pw (ofL y) with
    | some pw' => powL y n pw'
    | none => none
/-- n bits are still to be tried -/
def rootL (most : List Nat) (k : Nat) : Nat → Nat → Option Nat
  | 0, x => some x
  | n + 1, x => match powL (x + 2 ^ n) (k - 1) (ofL (x + 2 ^ n)) with
    | some pw => rootL most k n (if greaterL pw most then x else x + 2 ^ n)
    | none => none
def rootOf (p k : Nat) : Option Nat := rootL (List.replicate (2 * k) 0 ++ [p]) k 38 0

/-! ### what the functions compute, as numbers -/
/-- the number that the first n digits of a are -/
def V (a : List Nat) : Nat → Nat
  | 0 => 0
  | n + 1 => V a n + a.getD n 0 * 65536 ^ n
/-- all digits are below 65536 -/
def Dig (a : List Nat) : Prop := ∀ i, a.getD i 0 < 65536

theorem V_lt (a : List Nat) (h : Dig a) (n : Nat) : V a n < 65536 ^ n := by
  induction n with
  | zero => simp [V]
  | succ n ih =>
    have h1 := h n
    have h2 : (a.getD n 0 + 1) * 65536 ^ n ≤ 65536 * 65536 ^ n := Nat.mul_le_mul_right _ (by omega)
    rw [Nat.add_mul, Nat.one_mul] at h2
    rw [V, Nat.pow_succ, Nat.mul_comm (65536 ^ n)]
    omega
theorem V_mono (a : List Nat) (n m : Nat) (h : n ≤ m) : V a n ≤ V a m := by
  induction m with
  | zero => obtain rfl : n = 0 := by omega
            exact Nat.le_refl _
  | succ m ih =>
    by_cases e : n = m + 1
    · subst e; exact Nat.le_refl _
    · exact Nat.le_trans (ih (by omega)) (by rw [V]; omega)
theorem V_stable (a : List Nat) (n : Nat) (h : a.length ≤ n) : V a n = V a a.length := by
  induction n with
  | zero => rw [show a.length = 0 by omega]
  | succ n ih =>
    by_cases e : a.length = n + 1
    · rw [e]
    · rw [V, ih (by omega), List.getD_eq_getElem?_getD, List.getElem?_eq_none (by omega)]; simp
theorem getD_set (l : List Nat) (j i d : Nat) (hj : j < l.length) : (l.set j d).getD i 0 = if i = j then d else l.getD i 0 := by
  by_cases e : i = j
  · subst e; rw [if_pos rfl]; simp [List.getD_eq_getElem?_getD, hj]
  · rw [if_neg e, List.getD_eq_getElem?_getD, List.getElem?_set_ne (by omega), ← List.getD_eq_getElem?_getD]
theorem V_set (o : List Nat) (j d n : Nat) (hj : j < o.length) (hn : j < n) : V (o.set j d) n + o.getD j 0 * 65536 ^ j = V o n + d * 65536 ^ j := by
  induction n with
  | zero => omega
  | succ n ih =>
    rw [V, V, getD_set _ _ _ _ hj]
    by_cases e : n = j
    · subst e
      have : ∀ m, m ≤ n → V (o.set n d) m = V o m := by
        intro m hm
        induction m with
        | zero => rfl
        | succ m ihm => rw [V, V, ihm (by omega), getD_set _ _ _ _ hj, if_neg (by omega)]
      rw [if_pos rfl, this n (Nat.le_refl _)]; omega
    · rw [if_neg e]
      have := ih (by omega)
      omega
theorem Dig.set {o : List Nat} (h : Dig o) (j d : Nat) (hj : j < o.length) (hd : d < 65536) : Dig (o.set j d) := by
  intro i
  rw [getD_set _ _ _ _ hj]
  split
  · exact hd
  · exact h i

theorem innerL_val (ai : Nat) (b : List Nat) (i : Nat) (hai : ai < 65536) (hb : Dig b) (N R0 : Nat) (hN : i + b.length ≤ N) (htot : R0 + ai * 65536 ^ i * V b b.length < 65536 ^ N) :
    ∀ (F k c : Nat) (o : List Nat), o.length = N → Dig o → c < 65536 → i + k ≤ N → N < i + k + F → V o N + c * 65536 ^ (i + k) = R0 + ai * 65536 ^ i * V b k →
      ∃ o', innerL ai b i F k c o = some o' ∧ o'.length = N ∧ Dig o' ∧ V o' N = R0 + ai * 65536 ^ i * V b b.length := by
  intro F
  induction F with
  | zero => intro k c o _ _ _ h1 h2; omega
  | succ F ih =>
    intro k c o hl ho hc hk hF hinv
    by_cases hgo : k < b.length ∨ 0 < c
    · have hj : i + k < N := by
        rcases hgo with h | h
        · omega
        · by_cases hkb : k < b.length
          · omega
          · rw [V_stable b k (by omega)] at hinv
            have h1 : 65536 ^ (i + k) ≤ c * 65536 ^ (i + k) := Nat.le_mul_of_pos_left _ h
            have h2 : 65536 ^ (i + k) < 65536 ^ N := by omega
            exact (Nat.pow_lt_pow_iff_right (by omega)).1 h2
      have b1 := ho (i + k)
      have b2 := hb k
      have b3 : ai * b.getD k 0 ≤ 65535 * 65535 := Nat.mul_le_mul (by omega) (by omega)
      rw [innerL, if_pos hgo, if_pos ⟨by omega, by omega⟩]
      obtain ⟨t, ht⟩ : ∃ t, t = o.getD (i + k) 0 + c + ai * b.getD k 0 := ⟨_, rfl⟩
      rw [← ht]
      refine ih (k + 1) (t / 65536) (o.set (i + k) (t % 65536)) (by simpa using hl) (ho.set _ _ (by omega) (Nat.mod_lt _ (by omega))) (by omega) (by omega) (by omega) ?_
      have h1 := V_set o (i + k) (t % 65536) N (by omega) hj
      have h2 : (t / 65536) * 65536 ^ (i + k + 1) + (t % 65536) * 65536 ^ (i + k) = t * 65536 ^ (i + k) := by
        rw [Nat.pow_succ, Nat.mul_comm (65536 ^ (i + k)), ← Nat.mul_assoc, ← Nat.add_mul, Nat.mul_comm (t / 65536), Nat.div_add_mod]
      have h3 : t * 65536 ^ (i + k) = o.getD (i + k) 0 * 65536 ^ (i + k) + c * 65536 ^ (i + k) + ai * b.getD k 0 * 65536 ^ (i + k) := by rw [ht, Nat.add_mul, Nat.add_mul]
      have h4 : ai * 65536 ^ i * V b (k + 1) = ai * 65536 ^ i * V b k + ai * b.getD k 0 * 65536 ^ (i + k) := by
        rw [V, Nat.mul_add, Nat.pow_add]
        congr 1
        rw [Nat.mul_assoc, Nat.mul_assoc]
        congr 1
        rw [← Nat.mul_assoc, Nat.mul_comm (65536 ^ i) (b.getD k 0), Nat.mul_assoc]
      rw [show i + (k + 1) = i + k + 1 by omega]
      omega
    · refine ⟨o, by rw [innerL, if_neg hgo], hl, ho, ?_⟩
      have hc0 : c = 0 := by omega
      rw [hc0, Nat.zero_mul, Nat.add_zero] at hinv
      rw [hinv, V_stable b k (by omega)]

theorem outerL_val (a b : List Nat) (ha : Dig a) (hb : Dig b) (F : Nat) (hF : a.length + b.length + 1 < F) :
    ∀ (n i : Nat) (o : List Nat), i + n = a.length → o.length = a.length + b.length + 1 → Dig o → V o (a.length + b.length + 1) = V a i * V b b.length →
      ∃ o', outerL a b F n i o = some o' ∧ o'.length = a.length + b.length + 1 ∧ Dig o' ∧ V o' (a.length + b.length + 1) = V a a.length * V b b.length := by
  intro n
  induction n with
  | zero => intro i o hi hl ho hv; exact ⟨o, rfl, hl, ho, by rw [hv, show i = a.length by omega]⟩
  | succ n ih =>
    intro i o hi hl ho hv
    have e1 : V a (i + 1) * V b b.length = V a i * V b b.length + a.getD i 0 * 65536 ^ i * V b b.length := by rw [V, Nat.add_mul]
    have hlt : V a (i + 1) * V b b.length < 65536 ^ (a.length + b.length + 1) := by
      have h1 := V_lt a ha (i + 1)
      have h2 := V_lt b hb b.length
      have h3 : V a (i + 1) * V b b.length ≤ 65536 ^ (i + 1) * 65536 ^ b.length := Nat.mul_le_mul (by omega) (by omega)
      rw [← Nat.pow_add] at h3
      exact Nat.lt_of_le_of_lt h3 ((Nat.pow_lt_pow_iff_right (by omega)).2 (by omega))
    obtain ⟨o', h1, h2, h3, h4⟩ := innerL_val (a.getD i 0) b i (ha i) hb (a.length + b.length + 1) (V a i * V b b.length) (by omega) (by rw [← e1]; exact hlt) F 0 0 o hl ho (by omega) (by omega) (by omega) (by rw [hv, Nat.zero_mul, show V b 0 = 0 from rfl, Nat.mul_zero])
    rw [outerL, h1]
    exact ih (i + 1) o' (by omega) h2 h3 (by rw [h4, e1])
theorem V_zeros (n m : Nat) : V (List.replicate n 0) m = 0 := by
  induction m with
  | zero => rfl
  | succ m ih => rw [V, ih]; simp [List.getD_eq_getElem?_getD, List.getElem?_replicate]; split <;> simp
theorem Dig_zeros (n : Nat) : Dig (List.replicate n 0) := by
  intro i; simp [List.getD_eq_getElem?_getD, List.getElem?_replicate]; split <;> simp
theorem mulL_val (a b : List Nat) (ha : Dig a) (hb : Dig b) : ∃ o, mulL a b = some o ∧ o.length = a.length + b.length + 1 ∧ Dig o ∧ V o o.length = V a a.length * V b b.length := by
  obtain ⟨o, h1, h2, h3, h4⟩ := outerL_val a b ha hb (a.length + b.length + 2) (by omega) a.length 0 (List.replicate (a.length + b.length + 1) 0) (by omega) (by simp) (Dig_zeros _) (by rw [V_zeros]; simp [V])
  exact ⟨o, h1, h2, h3, by rw [h2, h4]⟩

theorem gtL_val (a b : List Nat) (ha : Dig a) (hb : Dig b) (n : Nat) : gtL a b n = decide (V b n < V a n) := by
  induction n with
  | zero => simp [gtL, V]
  | succ n ih =>
    rw [gtL, V, V]
    have h1 := V_lt a ha n
    have h2 := V_lt b hb n
    by_cases e : a.getD n 0 = b.getD n 0
    · rw [if_pos e, ih, e]; congr 1; simp
    · rw [if_neg e]
      by_cases l : b.getD n 0 < a.getD n 0
      · have : (b.getD n 0 + 1) * 65536 ^ n ≤ a.getD n 0 * 65536 ^ n := Nat.mul_le_mul_right _ l
        rw [Nat.add_mul, Nat.one_mul] at this
        rw [decide_eq_true l, decide_eq_true (by omega)]
      · have : (a.getD n 0 + 1) * 65536 ^ n ≤ b.getD n 0 * 65536 ^ n := Nat.mul_le_mul_right _ (by omega)
        rw [Nat.add_mul, Nat.one_mul] at this
        rw [decide_eq_false l, decide_eq_false (by omega)]
theorem greaterL_val (a b : List Nat) (ha : Dig a) (hb : Dig b) : greaterL a b = decide (V b b.length < V a a.length) := by
  rw [greaterL, gtL_val a b ha hb, V_stable a _ (by omega), V_stable b _ (by omega)]
theorem Dig.of_mem {l : List Nat} (h : ∀ x ∈ l, x < 65536) : Dig l := by
  intro i
  rcases Nat.lt_or_ge i l.length with hi | hi
  · rw [List.getD_eq_getElem?_getD, List.getElem?_eq_getElem hi]; exact h _ (List.getElem_mem hi)
  · rw [List.getD_eq_getElem?_getD, List.getElem?_eq_none hi]; simp
theorem ofL_dig (n : Nat) (h : n < 18446744073709551616) : Dig (ofL n) := by
  refine Dig.of_mem fun x hx => ?_
  simp only [ofL, List.mem_cons, List.not_mem_nil, or_false] at hx
  rcases hx with rfl | rfl | rfl | rfl <;> omega
theorem ofL_val (n : Nat) (h : n < 18446744073709551616) : V (ofL n) (ofL n).length = n := by
  simp [ofL, V]
  omega
theorem powL_val (y : Nat) (hy : y < 18446744073709551616) (n : Nat) : ∀ (pw : List Nat) (m : Nat), Dig pw → V pw pw.length = y ^ m → ∃ pw', powL y n pw = some pw' ∧ Dig pw' ∧ V pw' pw'.length = y ^ (m + n) := by
  induction n with
  | zero => intro pw m hd hv; exact ⟨pw, rfl, hd, hv⟩
  | succ n ih =>
    intro pw m hd hv
    obtain ⟨o, h1, _, h3, h4⟩ := mulL_val pw (ofL y) hd (ofL_dig y hy)
    rw [hv, ofL_val y hy, ← Nat.pow_succ] at h4
    obtain ⟨pw', e1, e2, e3⟩ := ih o (m + 1) h3 h4
    exact ⟨pw', by rw [powL, h1]; exact e1, e2, by rw [e3]; congr 1; omega⟩
theorem rootL_val (most : List Nat) (hm : Dig most) (k : Nat) (hk : 1 ≤ k) : ∀ (n x : Nat), n ≤ 38 → x % 2 ^ n = 0 → x + 2 ^ n ≤ 274877906944 → x ^ k ≤ V most most.length → V most most.length < (x + 2 ^ n) ^ k →
    ∃ r, rootL most k n x = some r ∧ r ^ k ≤ V most most.length ∧ V most most.length < (r + 1) ^ k := by
  intro n
  induction n with
  | zero => intro x _ _ _ h1 h2; exact ⟨x, rfl, h1, by simpa using h2⟩
  | succ n ih =>
    intro x hn hx0 hx h1 h2
    have hp : 2 ^ (n + 1) = 2 ^ n + 2 ^ n := by rw [Nat.pow_succ]; omega
    have hy : x + 2 ^ n < 18446744073709551616 := by omega
    obtain ⟨pw, e1, e2, e3⟩ := powL_val (x + 2 ^ n) hy (k - 1) (ofL (x + 2 ^ n)) 1 (ofL_dig _ hy) (by rw [ofL_val _ hy, Nat.pow_one])
    rw [show 1 + (k - 1) = k by omega] at e3
    rw [rootL, e1]
    simp only
    rw [greaterL_val pw most e2 hm, e3]
    have hdvd : ∃ q, x = 2 ^ (n + 1) * q := ⟨x / 2 ^ (n + 1), by have := Nat.div_add_mod x (2 ^ (n + 1)); omega⟩
    obtain ⟨q, hq⟩ := hdvd
    have hx1 : x % 2 ^ n = 0 := by rw [hq, hp, ← Nat.two_mul, Nat.mul_comm 2, Nat.mul_assoc]; exact Nat.mul_mod_right _ _
    have hx2 : (x + 2 ^ n) % 2 ^ n = 0 := by rw [Nat.add_mod_right]; exact hx1
    by_cases hg : V most most.length < (x + 2 ^ n) ^ k
    · rw [decide_eq_true hg, if_pos rfl]
      exact ih x (by omega) hx1 (by omega) h1 hg
    · rw [decide_eq_false hg, if_neg (by simp)]
      exact ih (x + 2 ^ n) (by omega) hx2 (by omega) (by omega) (by rw [Nat.add_assoc, ← hp]; exact h2)
/-- the root is the greatest number whose k-th power is at most p * 2^(32k) -/
theorem rootOf_val (p k r : Nat) (hk : k = 2 ∨ k = 3) (hp : p < 1000) (h1 : r ^ k ≤ p * 65536 ^ (2 * k)) (h2 : p * 65536 ^ (2 * k) < (r + 1) ^ k) : rootOf p k = some r := by
  have hd : Dig (List.replicate (2 * k) 0 ++ [p]) := Dig.of_mem fun x hx => by
    simp only [List.mem_append, List.mem_replicate, List.mem_singleton] at hx
    omega
  have hv : V (List.replicate (2 * k) 0 ++ [p]) (List.replicate (2 * k) 0 ++ [p]).length = p * 65536 ^ (2 * k) := by
    rcases hk with rfl | rfl <;> simp [V]
  have hlt : V (List.replicate (2 * k) 0 ++ [p]) (List.replicate (2 * k) 0 ++ [p]).length < (0 + 2 ^ 38) ^ k := by
    rw [hv]; rcases hk with rfl | rfl <;> simp <;> omega
  obtain ⟨r', e1, e2, e3⟩ := rootL_val (List.replicate (2 * k) 0 ++ [p]) hd k (by omega) 38 0 (by omega) (by simp) (by simp) (by rw [hv]; rcases hk with rfl | rfl <;> simp) hlt
  rw [rootOf, e1, hv] at *
  congr 1
  have u1 : r' < r + 1 := by
    apply Classical.byContradiction; intro h
    have := Nat.pow_le_pow_left (show r + 1 ≤ r' by omega) k
    omega
  have u2 : r < r' + 1 := by
    apply Classical.byContradiction; intro h
    have := Nat.pow_le_pow_left (show r' + 1 ≤ r by omega) k
    omega
  omega

def PR : List Nat := [2, 3, 5, 7, 11, 13, 17, 19, 23, 29, 31, 37, 41, 43, 47, 53, 59, 61, 67, 71, 73, 79, 83, 89, 97, 101, 103, 107, 109, 113, 127, 131, 137, 139, 149, 151, 157, 163, 167, 173, 179, 181, 191, 193, 197, 199, 211, 223, 227, 229, 233, 239, 241, 251, 257, 263, 269, 271, 277, 281, 283, 293, 307, 311]
/-- the cube roots of the first 64 primes, the square roots of the first eight, times 2^32, rounded down -/
def R3 : List Nat := [5411319704, 6194414737, 7344290767, 8215976869, 9551921755, 10098905585, 11043570340, 11460697813, 12214315672, 13195500289, 13492127166, 14311783875, 14809980276, 15046980094, 15499789991, 16133124468, 16720292289, 16907126662, 17444216262, 17784676812, 17950125167, 18429019306, 18734950876, 19175934170, 19734090066, 20001703533, 20132865992, 20390182855, 20516441075, 20764397895, 21588763473, 21813078375, 22141143685, 22248366392, 22769593852, 22871018771, 23170020180, 23461497531, 23651862830, 23931792517, 24205322401, 24295138891, 24734567280, 24820601251, 24990902297, 25075189284, 25569408389, 26045227120, 26200031510, 26276752392, 26428864332, 26653801653, 26727943347, 27092625994, 27306805839, 27517677555, 27725365998, 27793908591, 27997534228, 28131656200, 28198240250, 28526537963, 28973835255, 29099129074]
def R2 : List Nat := [6074000999, 7439101573, 9603838834, 11363415354, 14244795007, 15485724812, 17708603819, 18721328409]
theorem roots3 : ∀ i : Fin 64, R3.getD i.val 0 ^ 3 ≤ PR.getD i.val 0 * 65536 ^ (2 * 3) ∧ PR.getD i.val 0 * 65536 ^ (2 * 3) < (R3.getD i.val 0 + 1) ^ 3 ∧ R3.getD i.val 0 % 4294967296 = KK.getD i.val 0 ∧ PR.getD i.val 0 < 1000 := by decide +kernel
theorem roots2 : ∀ i : Fin 8, R2.getD i.val 0 ^ 2 ≤ PR.getD i.val 0 * 65536 ^ (2 * 2) ∧ PR.getD i.val 0 * 65536 ^ (2 * 2) < (R2.getD i.val 0 + 1) ^ 2 ∧ R2.getD i.val 0 % 4294967296 = HH.getD i.val 0 := by decide +kernel
theorem root3 (i : Nat) (h : i < 64) : rootOf (PR.getD i 0) 3 = some (R3.getD i 0) ∧ R3.getD i 0 % 4294967296 = KK.getD i 0 :=
  have r := roots3 ⟨i, h⟩
  ⟨rootOf_val _ 3 _ (.inr rfl) r.2.2.2 r.1 r.2.1, r.2.2.1⟩
theorem root2 (i : Nat) (h : i < 8) : rootOf (PR.getD i 0) 2 = some (R2.getD i 0) ∧ R2.getD i 0 % 4294967296 = HH.getD i 0 :=
  have r := roots2 ⟨i, h⟩
  ⟨rootOf_val _ 2 _ (.inl rfl) (roots3 ⟨i, by omega⟩).2.2.2 r.1 r.2.1, r.2.2⟩

/-- the primes below p, as the reference finds them -/
def primesB : Nat → List Nat
  | 0 => []
  | p + 1 => if 2 ≤ p ∧ (primesB p).all (fun q => p % q != 0) then primesB p ++ [p] else primesB p
theorem primes_all : primesB 312 = PR := by decide +kernel
end Go.Proofs.YtediocpdpghbfaaDoor
