/- The words of SHA-256: the rotations of the program and of the reference return one and the same number, for every word and every count from 1 to 31. -/
import Derived.Test.YtediocpdpghbfaaDoorProg
import Derived.WalkKit
import Derived.WalkLawsBesides
import Derived.WalkSpells
import Derived.Deep.QuietTactic
import Derived.BigQuiet
import Derived.Lib.Hide
import Derived.Outline
set_option linter.unusedSimpArgs false
set_option linter.unusedVariables false
namespace Go.Proofs.YtediocpdpghbfaaDoor
open Go Go.RowKit

theorem shift_count : ∀ k : Fin 32, 1 ≤ k.val → bits BinOp.and IntKind.u64 (IntKind.u64.wrap (-(k.val : Int))) 31 = ((32 - k.val : Nat) : Int) := by decide +kernel

theorem ofInt_u32 (a : Nat) (ha : a < 4294967296) : (BitVec.ofInt 32 (a : Int)).toNat = a := by
  rw [BitVec.ofInt_natCast, BitVec.toNat_ofNat]; exact Nat.mod_eq_of_lt (by omega)
theorem wrap_u32 (n : Int) : IntKind.u32.wrap n = n % 4294967296 := by simp [IntKind.wrap, IntKind.bits, IntKind.signed]
theorem bits_or_u32 (a b : Nat) (ha : a < 4294967296) (hb : b < 4294967296) : bits .or .u32 (a : Int) (b : Int) = ((a ||| b : Nat) : Int) := by
  have hx : a ||| b < 2 ^ 32 := Nat.or_lt_two_pow (by omega) (by omega)
  show IntKind.u32.wrap ((BitVec.ofInt 32 (a : Int) ||| BitVec.ofInt 32 (b : Int)).toNat : Int) = _
  rw [BitVec.toNat_or, ofInt_u32 a ha, ofInt_u32 b hb, wrap_u32]; omega
theorem bits_xor_u32 (a b : Nat) (ha : a < 4294967296) (hb : b < 4294967296) : bits .xor .u32 (a : Int) (b : Int) = ((a ^^^ b : Nat) : Int) := by
  have hx : a ^^^ b < 2 ^ 32 := Nat.xor_lt_two_pow (by omega) (by omega)
  show IntKind.u32.wrap ((BitVec.ofInt 32 (a : Int) ^^^ BitVec.ofInt 32 (b : Int)).toNat : Int) = _
  rw [BitVec.toNat_xor, ofInt_u32 a ha, ofInt_u32 b hb, wrap_u32]; omega
theorem bits_and_u32 (a b : Nat) (ha : a < 4294967296) (hb : b < 4294967296) : bits .and .u32 (a : Int) (b : Int) = ((a &&& b : Nat) : Int) := by
  have hx : a &&& b < 2 ^ 32 := Nat.and_lt_two_pow _ (by omega)
  show IntKind.u32.wrap ((BitVec.ofInt 32 (a : Int) &&& BitVec.ofInt 32 (b : Int)).toNat : Int) = _
  rw [BitVec.toNat_and, ofInt_u32 a ha, ofInt_u32 b hb, wrap_u32]; omega

/-- the word x turned right by k places -/
def rotr (x k : Nat) : Nat := (x / 2 ^ k) ||| (x * 2 ^ (32 - k) % 4294967296)
theorem rotr_lt (x k : Nat) (hx : x < 4294967296) : rotr x k < 4294967296 := by
  have h1 : x / 2 ^ k < 2 ^ 32 := Nat.lt_of_le_of_lt (Nat.div_le_self _ _) (by omega)
  have h2 : x * 2 ^ (32 - k) % 4294967296 < 2 ^ 32 := Nat.mod_lt _ (by omega)
  exact Nat.or_lt_two_pow h1 h2

theorem rot_int (x k s : Nat) (hx : x < 4294967296) (hs : s = 32 - k) (hk : 1 ≤ k ∧ k ≤ 31) :
    bits BinOp.or IntKind.u32 ((x : Int) * 2 ^ s % 4294967296) ((x : Int) / 2 ^ (32 - s)) = (rotr x k : Int) := by
  subst hs
  have e1 : ((x : Int) * 2 ^ (32 - k) % 4294967296) = ((x * 2 ^ (32 - k) % 4294967296 : Nat) : Int) := by
    rw [Int.natCast_emod, Int.natCast_mul, Int.natCast_pow]; rfl
  have e2 : ((x : Int) / 2 ^ (32 - (32 - k))) = ((x / 2 ^ k : Nat) : Int) := by
    rw [show 32 - (32 - k) = k by omega, Int.natCast_ediv, Int.natCast_pow]; rfl
  rw [e1, e2, bits_or_u32 _ _ (Nat.mod_lt _ (by omega)) (Nat.lt_of_le_of_lt (Nat.div_le_self _ _) hx), Nat.or_comm]
  rfl

theorem rotl_any (x : Nat) (k : Int) (hx : x < 4294967296) (hk : 1 ≤ k ∧ k ≤ 31) (w : World) :
    Calls Tryd.prog 90 #[.int .u32 x, .int .i64 (-k)] w fun e w' => e = .returned (.int .u32 (rotr x k.toNat)) ∧ w = w' := by
  obtain ⟨k, rfl⟩ := Int.eq_ofNat_of_zero_le (show 0 ≤ k by omega)
  have hc := shift_count ⟨k, by omega⟩ (by simp; omega)
  simp only at hc
  obtain ⟨s, hs⟩ : ∃ s, s = 32 - k := ⟨_, rfl⟩
  rw [← hs] at hc
  have : 1 ≤ s ∧ s ≤ 31 := by omega
  have h0 : (0:Int) ≤ s := by omega
  have h32 : (s:Int) ≤ 31 := by omega
  have HS := Lib.hid hs; clear hs
  go_enter Tryd.func90, Tryd.ntmps90
  go_wp2
  go_ret
  refine ⟨?_, rfl⟩
  rw [Int.toNat_natCast, ← rot_int x k s hx HS.out (by omega)]
  rfl

theorem rotr_any (x : Nat) (k : Int) (hx : x < 4294967296) (hk : 1 ≤ k ∧ k ≤ 31) (w : World) :
    Calls Tryd.prog 69 #[.int .u32 x, .int .i64 k] w fun e w' => e = .returned (.int .u32 (rotr x k.toNat)) ∧ ∃ n, w' = w.drewN n := by
  obtain ⟨k, rfl⟩ := Int.eq_ofNat_of_zero_le (show 0 ≤ k by omega)
  go_enter Tryd.func69, Tryd.ntmps69
  go_wp2
  go_quiet (fail)
  go_wp2
  go_ret
  refine ⟨?_, _, rfl⟩
  have e1 : ((x : Int) * 2 ^ (32 - k) % 4294967296) = ((x * 2 ^ (32 - k) % 4294967296 : Nat) : Int) := by
    rw [Int.natCast_emod, Int.natCast_mul, Int.natCast_pow]; rfl
  have e2 : ((x : Int) / 2 ^ k) = ((x / 2 ^ k : Nat) : Int) := by
    rw [Int.natCast_ediv, Int.natCast_pow]; rfl
  have h : bits BinOp.or IntKind.u32 ((x : Int) / 2 ^ k) ((x : Int) * 2 ^ (32 - k) % 4294967296) = (rotr x k : Int) := by
    rw [e1, e2, bits_or_u32 _ _ (Nat.lt_of_le_of_lt (Nat.div_le_self _ _) hx) (Nat.mod_lt _ (by omega))]
    rfl
  rw [Int.toNat_natCast, ← h]
  rfl

theorem rotate_any (x : Nat) (i j k : Int) (hx : x < 4294967296) (hi : 1 ≤ i ∧ i ≤ 31) (hj : 1 ≤ j ∧ j ≤ 31) (hk : 1 ≤ k ∧ k ≤ 31) (w : World) :
    Calls Tryd.prog 67 #[.int .u32 x, .int .i64 i, .int .i64 j, .int .i64 k] w fun e w' => e = .returned (.int .u32 ((rotr x i.toNat ^^^ rotr x j.toNat ^^^ rotr x k.toNat : Nat) : Int)) ∧ w = w' := by
  have b1 := bits_xor_u32 _ _ (rotr_lt x i.toNat hx) (rotr_lt x j.toNat hx)
  have l1 : rotr x i.toNat ^^^ rotr x j.toNat < 4294967296 := Nat.xor_lt_two_pow (n := 32) (rotr_lt x i.toNat hx) (rotr_lt x j.toNat hx)
  have b2 := bits_xor_u32 _ _ l1 (rotr_lt x k.toNat hx)
  have B := Lib.hid (And.intro b1 b2); clear b1 b2 l1
  go_enter Tryd.func67, Tryd.ntmps67
  go_wp2_with fail
  refine (rotl_any x i hx hi _).mono ?_; rintro e w' ⟨rfl, rfl⟩
  go_wp2_with fail
  refine (rotl_any x j hx hj _).mono ?_; rintro e w' ⟨rfl, rfl⟩
  go_wp2_with fail
  refine (rotl_any x k hx hk _).mono ?_; rintro e w' ⟨rfl, rfl⟩
  go_wp2_with fail
  go_ret
  refine ⟨?_, rfl⟩
  rw [← B.out.2, ← B.out.1]
  rfl
end Go.Proofs.YtediocpdpghbfaaDoor
