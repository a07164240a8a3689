/- one round of the compression -/
import Derived.Test.YtediocpdpghbfaaDoorSched
import Derived.RegionTactic
set_option linter.unusedSimpArgs false
set_option linter.unusedVariables false
namespace Go.Proofs.YtediocpdpghbfaaDoor
open Go Go.RowKit

theorem quiet_add_left {P : Program} {f : FuncId} {args : Array Value} {w : World} {a n : Nat} {v : Value}
    (h : Calls P f args (w.drewN (a + n)) fun e w' => e = .returned v ∧ w.drewN (a + n) = w') :
    Calls P f args (w.drewN (a + n)) fun e w'' => e = .returned v ∧ ∃ m, w'' = w.drewN (a + m) :=
  h.mono fun _ _ ⟨he, hm⟩ => ⟨he, n, hm.symm⟩
theorem quiet_left {P : Program} {f : FuncId} {args : Array Value} {w : World} {n : Nat} {v : Value}
    (h : Calls P f args (w.drewN n) fun e w' => e = .returned v ∧ w.drewN n = w') : Calls P f args (w.drewN n) fun e w'' => e = .returned v ∧ ∃ m, w'' = w.drewN m :=
  h.mono fun _ _ ⟨he, hm⟩ => ⟨he, n, hm.symm⟩

theorem big0_lt (a : Nat) (h : a < 4294967296) : big0 a < 4294967296 :=
  Nat.xor_lt_two_pow (n := 32) (Nat.xor_lt_two_pow (n := 32) (rotr_lt a 2 h) (rotr_lt a 13 h)) (rotr_lt a 22 h)
theorem big1_lt (a : Nat) (h : a < 4294967296) : big1 a < 4294967296 :=
  Nat.xor_lt_two_pow (n := 32) (Nat.xor_lt_two_pow (n := 32) (rotr_lt a 6 h) (rotr_lt a 11 h)) (rotr_lt a 25 h)
theorem ch_lt (e f g : Nat) (he : e < 4294967296) (hf : f < 4294967296) (hg : g < 4294967296) : ch e f g < 4294967296 :=
  Nat.xor_lt_two_pow (n := 32) (Nat.and_lt_two_pow _ hf) (Nat.and_lt_two_pow _ hg)
theorem maj_lt (a b c : Nat) (ha : a < 4294967296) (hb : b < 4294967296) (hc : c < 4294967296) : maj a b c < 4294967296 :=
  Nat.xor_lt_two_pow (n := 32) (Nat.xor_lt_two_pow (n := 32) (Nat.and_lt_two_pow _ hb) (Nat.and_lt_two_pow _ hc)) (Nat.and_lt_two_pow _ hc)
theorem not_walk (e : Nat) (he : e < 4294967296) : bits .xor .u32 (if IntKind.u32.signed = true then -1 else IntKind.u32.max) (e : Int) = ((4294967295 - e : Nat) : Int) := by
  have hm : (if IntKind.u32.signed = true then (-1 : Int) else IntKind.u32.max) = ((4294967295 : Nat) : Int) := by decide
  rw [hm, bits_xor_u32 _ _ (by omega) he]
  congr 1
  have h1 : (4294967295 : Nat) = 2 ^ 32 - 1 := by decide
  have h2 := BitVec.toNat_not (x := BitVec.ofNat 32 e)
  have h3 : (~~~ (BitVec.ofNat 32 e)).toNat = (BitVec.allOnes 32 ^^^ BitVec.ofNat 32 e).toNat := by rw [BitVec.allOnes_xor]
  rw [BitVec.toNat_xor, BitVec.toNat_allOnes, BitVec.toNat_ofNat, Nat.mod_eq_of_lt (show e < 2 ^ 32 by omega)] at h3
  rw [BitVec.toNat_ofNat, Nat.mod_eq_of_lt (show e < 2 ^ 32 by omega)] at h2
  rw [h1, ← h3, h2]
theorem ch_walk (e f g : Nat) (he : e < 4294967296) (hf : f < 4294967296) (hg : g < 4294967296) :
    bits BinOp.xor IntKind.u32 (bits BinOp.and IntKind.u32 (e : Int) f) (bits BinOp.and IntKind.u32 (bits BinOp.xor IntKind.u32 (if IntKind.u32.signed = true then -1 else IntKind.u32.max) (e : Int)) g) = (ch e f g : Nat) := by
  rw [not_walk e he, bits_and_u32 _ _ he hf, bits_and_u32 _ _ (by omega) hg, bits_xor_u32 _ _ (Nat.and_lt_two_pow (n := 32) _ hf) (Nat.and_lt_two_pow (n := 32) _ hg)]
  rfl
theorem maj_walk (a b c : Nat) (ha : a < 4294967296) (hb : b < 4294967296) (hc : c < 4294967296) :
    bits BinOp.xor IntKind.u32 (bits BinOp.xor IntKind.u32 (bits BinOp.and IntKind.u32 (a : Int) b) (bits BinOp.and IntKind.u32 (a : Int) c)) (bits BinOp.and IntKind.u32 (b : Int) c) = (maj a b c : Nat) := by
  rw [bits_and_u32 _ _ ha hb, bits_and_u32 _ _ ha hc, bits_and_u32 _ _ hb hc, bits_xor_u32 _ _ (Nat.and_lt_two_pow (n := 32) _ hb) (Nat.and_lt_two_pow (n := 32) _ hc),
    bits_xor_u32 _ _ (Nat.xor_lt_two_pow (n := 32) (Nat.and_lt_two_pow (n := 32) _ hb) (Nat.and_lt_two_pow (n := 32) _ hc)) (Nat.and_lt_two_pow (n := 32) _ hc)]
  rfl
theorem big1_any (x : Nat) (hx : x < 4294967296) (w : World) :
    Calls Tryd.prog 67 #[.int .u32 x, .int .i64 6, .int .i64 11, .int .i64 25] w fun e w' => e = .returned (.int .u32 (big1 x : Nat)) ∧ w = w' :=
  rotate_any x 6 11 25 hx (by omega) (by omega) (by omega) w
theorem big0_any (x : Nat) (hx : x < 4294967296) (w : World) :
    Calls Tryd.prog 67 #[.int .u32 x, .int .i64 2, .int .i64 13, .int .i64 22] w fun e w' => e = .returned (.int .u32 (big0 x : Nat)) ∧ w = w' :=
  rotate_any x 2 13 22 hx (by omega) (by omega) (by omega) w
theorem agg8 (x0 x4 y0 y4 : Int) (v1 v2 v3 v5 v6 v7 : Value) (h0 : x0 = y0) (h4 : x4 = y4) :
    Value.agg #[.int .u32 x0, v1, v2, v3, .int .u32 x4, v5, v6, v7] = Value.agg #[.int .u32 y0, v1, v2, v3, .int .u32 y4, v5, v6, v7] := by rw [h0, h4]
theorem size30 : (Tryd.prog.info? 30).map (·.size) = some 8 := by kernel_rfl
set_option maxRecDepth 100000 in
theorem round_any (a b c d e f g z k x : Nat) (ha : a < 4294967296) (hb : b < 4294967296) (hc : c < 4294967296) (hd : d < 4294967296)
    (he : e < 4294967296) (hf : f < 4294967296) (hg : g < 4294967296) (hh : z < 4294967296) (hk : k < 4294967296) (hx : x < 4294967296)
    (w : World) (s : Nat) (hs : Blk w s 30 (u32s [a, b, c, d, e, f, g, z])) :
    Calls Tryd.prog 66 #[.int .u32 k, .int .u32 x, .pointer (some ⟨s, 0, none⟩)] w fun r w' => r = .returned (.tuple #[]) ∧ Blk w' s 30 (u32s (rnd [a, b, c, d, e, f, g, z] k x)) ∧ w.grownBy w' (some s) := by
  have c0 := hs.u32 (i := 0) (by simp)
  have c1 := hs.u32 (i := 1) (by simp)
  have c2 := hs.u32 (i := 2) (by simp)
  have c3 := hs.u32 (i := 3) (by simp)
  have c4 := hs.u32 (i := 4) (by simp)
  have c5 := hs.u32 (i := 5) (by simp)
  have c6 := hs.u32 (i := 6) (by simp)
  have c7 := hs.u32 (i := 7) (by simp)
  simp only [List.getD_cons_zero, List.getD_cons_succ] at c0 c1 c2 c3 c4 c5 c6 c7
  have hch := ch_walk e f g he hf hg
  have hmaj := maj_walk a b c ha hb hc
  have l1 := ch_lt e f g he hf hg
  have l2 := maj_lt a b c ha hb hc
  have l3 := big1_lt e he
  have l4 := big0_lt a ha
  generalize hCH : ch e f g = CH at *
  generalize hMJ : maj a b c = MJ at *
  have HG := Lib.hid (And.intro hCH hMJ); clear hCH hMJ
  go_enter Tryd.func66, Tryd.ntmps66
  go_wp2_with fail
  go_quiet (fail)
  rename_i n1
  go_wp2_with fail
  go_quiet ((go_at_call 67; exact quiet_add_left (big1_any e he _)))
  rename_i n2
  go_wp2_with fail
  refine (big0_any a ha _).mono ?_; rintro e w' ⟨rfl, rfl⟩
  have hsg : IntKind.u32.signed = false := rfl
  go_wp2_with (refine wpList_store_row rfl 30 (.tmp 2) (.tmp 70) rfl s (u32s (rnd [a, b, c, d, e, f, g, z] k x)) rfl ?hy 30 _ (hs.drewN _) size30 rfl (u32s_one _) ?_)
  case hy =>
    have ht1 : t1 [a, b, c, d, e, f, g, z] k x = (z + big1 e + CH + k + x) % 4294967296 := by rw [← HG.out.1]; rfl
    have ht2 : t2 [a, b, c, d, e, f, g, z] = (big0 a + MJ) % 4294967296 := by rw [← HG.out.2]; rfl
    refine agg8 _ _ (((t1 [a, b, c, d, e, f, g, z] k x + t2 [a, b, c, d, e, f, g, z]) % 4294967296 : Nat) : Int) (((d + t1 [a, b, c, d, e, f, g, z] k x) % 4294967296 : Nat) : Int) _ _ _ _ _ _ ?_ ?_
    · rw [ht1, ht2]; omega
    · rw [ht1]; omega
  go_end0
  exact ⟨rfl, (hs.drewN _).setRow _, grown_setRow (grown_drewN (World.grownBy.refl _ _) _) _⟩
end Go.Proofs.YtediocpdpghbfaaDoor
