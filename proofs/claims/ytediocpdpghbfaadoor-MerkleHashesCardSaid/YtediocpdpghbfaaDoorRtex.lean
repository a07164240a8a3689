/- The reference's Text and Parse -/
import Derived.Test.YtediocpdpghbfaaDoorLclo
set_option linter.unusedSimpArgs false
set_option linter.unusedVariables false
namespace Go.Proofs.YtediocpdpghbfaaDoor
open Go Go.RowKit

theorem strOf_size (l : List Nat) : (strOf l).size = l.length := by
  rw [strOf]; simp [ByteArray.size]
theorem strOf_append (a b : List Nat) : strOf a ++ strOf b = strOf (a ++ b) := by
  apply ByteArray.ext
  simp [strOf, ByteArray.data_append]
theorem digits_slice (n : Nat) (h : n < 16) (w : World) :
    (Instr.slice 9 (.string digitsBA) (some (.int .u8 (n : Int))) (some (.int .u8 ((n : Int) + 1))) none).run Tryd.prog w = .ok (.string (strOf [hexd n])) w := by
  have hs : digitsBA.size = 16 := rfl
  have e : digitsBA.extract n (n + 1) = strOf [hexd n] := by
    have key : ∀ n : Fin 16, (digitsBA.extract n.val (n.val + 1)) = strOf [hexd n.val] := by decide
    exact key ⟨n, h⟩
  have e2 : ((n : Int) + 1).toNat = n + 1 := by omega
  have h1 : (n : Int) + 1 ≤ 16 := by omega
  have b1 : (Instr.sliceBound (.int .u8 (n : Int)) (n + 1) .sliceB).run Tryd.prog w = .ok n w := by
    have := run_sliceBound (P := Tryd.prog) w .u8 (n : Int) (n + 1) .sliceB (by omega) (by omega)
    simpa using this
  simp [Instr.slice, run_underlying Tryd.underlying9, Instr.sliceBounds, run_sliceBound, hs, h1, e2, e, b1, (by omega : (0 : Int) ≤ (n : Int) + 1)]
/-- the number of bytes that the text has behind t of the digest's bytes -/
theorem hexL_take (d : List Nat) (t : Nat) (h : t < d.length) : hexL (d.take (t + 1)) = hexL (d.take t) ++ [hexd (d.getD t 0 / 16)] ++ [hexd (d.getD t 0 % 16)] := by
  have htake : d.take (t + 1) = d.take t ++ [d.getD t 0] := by
    rw [List.take_succ_eq_append_getElem h]; simp [List.getD_eq_getElem?_getD, List.getElem?_eq_getElem h]
  rw [htake, hexL_snoc]; simp
set_option maxRecDepth 100000 in
set_option maxHeartbeats 1000000 in
theorem rtext_any (w : World) (d : List Nat) (hd : d.length = 32) (hB : Bytes d) :
    Calls Tryd.prog 34 #[.agg (u8s d)] w fun e w' => e = .returned (.string (strOf (hexL d))) ∧ Below w.heap.size w w' := by
  have E0 := Blk.new w 24 (u8s d)
  have B0 := (Below.refl w.heap.size w).alloc (Nat.le_refl _) (.cells (u8s d) 24)
  have HA := Lib.hid (And.intro E0 B0)
  clear E0 B0
  obtain ⟨g, hg⟩ : ∃ g, g = w.heap.size := ⟨_, rfl⟩
  rw [← hg] at HA ⊢
  go_enter Tryd.func34, Tryd.ntmps34
  go_wp2_with fail
  rw [← hg]
  clear hg
  go_loopg [3, 4] 32 (fun k s i wr => ∃ t : Nat, t + k = 32 ∧ i = .int .i64 t ∧ s = .string (strOf (hexL (d.take t))) ∧ Blk wr g 24 (u8s d) ∧ Below g w wr)
  case atStart => exact ⟨0, rfl, rfl, rfl, HA.out.1, HA.out.2⟩
  case round =>
    obtain ⟨t, htk, rfl, rfl, E, B⟩ := hrel
    by_cases ht : t < 32
    · have c := E.drew.u8 (i := t) (by omega)
      have hb := hB t
      have hnext := hexL_take d t (by omega)
      have hz0 := strOf_size (hexL (d.take t))
      rw [hexL_length, List.length_take, Nat.min_eq_left (by omega)] at hz0
      generalize d.getD t 0 = b at *
      have s1 := fun W => digits_slice (b / 16) (by omega) W
      have s2 := fun W => digits_slice (b % 16) (by omega) W
      have z1 := strOf_size [hexd (b / 16)]
      have z2 := strOf_size [hexd (b % 16)]
      have hcat : strOf (hexL (d.take t)) ++ strOf [hexd (b / 16)] ++ strOf [hexd (b % 16)] = strOf (hexL (d.take (t + 1))) := by rw [strOf_append, strOf_append, hnext]
      have hza : (strOf (hexL (d.take t)) ++ strOf [hexd (b / 16)]).size = 2 * t + 1 := by rw [ByteArray.size_append, hz0, z1]; rfl
      simp only [Int.natCast_emod, Int.natCast_ediv, Int.cast_ofNat_Int, digitsBA] at s1 s2
      generalize strOf (hexL (d.take t)) = S0 at *
      generalize strOf [hexd (b / 16)] = S1 at *
      generalize strOf [hexd (b % 16)] = S2 at *
      generalize hS : S0 ++ S1 = S3 at *
      generalize hS4 : S3 ++ S2 = S4 at *
      have q1 : S0.size + S1.size ≤ 9223372036854775807 := by simp at z1; omega
      have q2 : S3.size + S2.size ≤ 9223372036854775807 := by simp at z2; omega
      have HE := Lib.hid (And.intro htk (And.intro E (And.intro B (And.intro hcat hnext))))
      clear htk E B hcat hnext hz0 z1 z2 hza
      go_wp2_with fail
      refine wp_region_sego [0, 0, 0, 0, 0, 0, 0, 0, 0, 0, 0, 0, 0, 0, 0, 0, 0, 0, 0, 0, 0, 0, 0, 0] [] (by kernel_rfl) (by kernel_rfl) (fun _ _ d _ _ h => by cases d <;> exact h) (sego_end fun K0 hK0 => ?_)
      simp only [pickC, ↓reduceIte, Nat.reduceEqDiff, Nat.reduceAdd]
      go_wp2_with fail
      refine hK0.out _ ?_
      clear hK0 K0
      go_wp2_with fail
      go_roundg (gk - 1)
      case measure => have := HE.out.1; omega
      case rel =>
        obtain ⟨htk, E, B, hcat, _⟩ := HE.out
        exact ⟨t + 1, by omega, by go_num, by rw [hcat], E.drew, B.drew⟩
    · obtain rfl : t = 32 := by omega
      have HE := Lib.hid B
      rw [List.take_of_length_le (by omega)]
      clear htk E B
      go_wp2_with fail
      go_ret
      exact ⟨rfl, HE.out⟩
end Go.Proofs.YtediocpdpghbfaaDoor
