/- padding, Pad -/
import Derived.Test.YtediocpdpghbfaaDoorSpeca
set_option linter.unusedSimpArgs false
set_option linter.unusedVariables false
namespace Go.Proofs.YtediocpdpghbfaaDoor
open Go Go.RowKit

theorem run_make_rowN {P : Program} (t e : TypeId) (i : TypeInfo) (z : Value) (ht : P.underlying t = some (.slice e)) (hi : P.info? e = some i) (hz : i.zero = some z)
    (kl kc : IntKind) (n c : Nat) (hnc : n ≤ c) (hbytes : i.bytes * c ≤ 281474976710656) (h63 : c ≤ 9223372036854775807) (w : World) :
    (Instr.makeSlice t (.int kl (n : Int)) (.int kc (c : Int))).run P w = .ok (.slice (some ⟨w.heap.size, 0, none⟩) n c) (w.alloc (.cells (madeCells z.cells (c * i.size)) e)) := by
  have hb : (i.bytes : Int) * (c : Int) ≤ 281474976710656 := by
    have h : ((i.bytes * c : Nat) : Int) ≤ 281474976710656 := by omega
    rwa [Int.natCast_mul] at h
  have hr := run_make (P := P) w t e i z ht hi hz kl kc n c (by omega) (by omega) hb (by omega)
  simp only [Int.toNat_natCast] at hr
  exact hr
theorem info5 : (Tryd.prog.info? 5).map (fun i => (i.zero, i.size, i.bytes)) = some (some (.int .u8 0), 1, 1) := by kernel_rfl
theorem madeCells_u8 (n : Nat) : madeCells (Value.int .u8 0).cells n = u8s (List.replicate n 0) := by
  unfold madeCells u8s
  apply Array.ext'
  simp [Value.cells, Nat.mod_one, List.map_const']
theorem make_bytes (n : Nat) (hn : n ≤ 281474976710656) (w : World) :
    (Instr.makeSlice 22 (.int .i64 (n : Int)) (.int .i64 (n : Int))).run Tryd.prog w = .ok (.slice (some ⟨w.heap.size, 0, none⟩) n n) (w.alloc (.cells (u8s (List.replicate n 0)) 5)) := by
  obtain ⟨i, hi, hz, hs, hb⟩ := info_parts info5
  have := run_make_rowN (P := Tryd.prog) 22 5 i _ Tryd.underlying22 hi hz .i64 .i64 n n (Nat.le_refl _) (by rw [hb]; omega) (by omega) w
  rwa [hs, Nat.mul_one, madeCells_u8] at this

/-- the padding while its last eight bytes are being written -/
def padP (sz x i : Nat) : List Nat := 128 :: (List.replicate (sz - 1) 0 ++ ((be8 x).take i ++ List.replicate (8 - i) 0))
theorem be8_length (x : Nat) : (be8 x).length = 8 := by simp [be8]
theorem padP_length (sz x i : Nat) (h : 1 ≤ sz) (hi : i ≤ 8) : (padP sz x i).length = sz + 8 := by simp [padP, be8_length]; omega
theorem padP_zero (sz x : Nat) (h : 1 ≤ sz) : (List.replicate (sz + 8) 0).set 0 128 = padP sz x 0 := by
  obtain ⟨k, rfl⟩ : ∃ k, sz = k + 1 := ⟨sz - 1, by omega⟩
  rw [show k + 1 + 8 = (k + 8) + 1 by omega, List.replicate_succ, List.set_cons_zero, padP]
  simp only [Nat.add_sub_cancel, List.take_zero, List.nil_append, Nat.sub_zero, List.replicate_append_replicate]
theorem padP_full (sz x : Nat) : padP sz x 8 = 128 :: (List.replicate (sz - 1) 0 ++ be8 x) := by
  rw [padP, List.take_of_length_le (by rw [be8_length]; omega)]; simp
theorem padP_set (sz x i : Nat) (h : 1 ≤ sz) (hi : i < 8) : (padP sz x i).set (sz + i) (x / 2 ^ (56 - 8 * i) % 256) = padP sz x (i + 1) := by
  obtain ⟨k, rfl⟩ : ∃ k, sz = k + 1 := ⟨sz - 1, by omega⟩
  obtain ⟨j, hj⟩ : ∃ j, 8 - i = j + 1 := ⟨7 - i, by omega⟩
  have hb : (be8 x)[i]'(by rw [be8_length]; exact hi) = x / 2 ^ (56 - 8 * i) % 256 := by simp [be8]
  rw [padP, padP, show k + 1 + i = (k + i) + 1 by omega, List.set_cons_succ, hj, show 8 - (i + 1) = j by omega,
    List.set_append_right _ _ (by simp), List.set_append_right _ _ (by simp [be8_length]; omega), List.replicate_succ,
    List.take_succ_eq_append_getElem (by rw [be8_length]; exact hi), hb]
  have e : k + i - (List.replicate (k + 1 - 1) 0).length - ((be8 x).take i).length = 0 := by simp [be8_length]; omega
  rw [e]
  simp
set_option maxRecDepth 100000 in
theorem padding_any (n : Nat) (hn : n ≤ 72057594037927936) (w : World) :
    Calls Tryd.prog 70 #[.int .i64 n] w fun e w' => e = .returned (.slice (some ⟨w.heap.size, 0, none⟩) (padL n).length (padL n).length) ∧ Blk w' w.heap.size 5 (u8s (padL n)) ∧ Below w.heap.size w w' := by
  obtain ⟨sz, hsz⟩ : ∃ sz, padSize n = sz := ⟨_, rfl⟩
  have h1 := padSize_pos n
  have hl := padL_length n
  rw [hsz] at h1 hl
  have hs : (64 - ((n : Int) + 8) % 64) = (sz : Int) := by rw [← hsz]; unfold padSize; omega
  have hmk := make_bytes (sz + 8) (by omega)
  simp only [Int.natCast_add, Int.cast_ofNat_Int] at hmk
  have HS := Lib.hid (And.intro hsz hl); clear hsz hl
  go_enter Tryd.func70, Tryd.ntmps70
  go_wp2_with fail
  go_loopg [15] 8 (fun k i wr => ∃ t : Nat, t + k = 8 ∧ i = .int .i64 t ∧ Blk wr w.heap.size 5 (u8s (padP sz (n * 8) t)) ∧ Below w.heap.size w wr)
  case atStart =>
    refine ⟨0, rfl, rfl, ?_, (Below.refl _ _).alloc (Nat.le_refl _) _⟩
    rw [← padP_zero sz (n * 8) h1.1, ← u8s_set]
    exact Blk.new _ _ _
  case round =>
    obtain ⟨t, htk, rfl, E, B0⟩ := hrel
    have HTK := Lib.hid htk; clear htk
    by_cases ht : t < 8
    · have c := E.u8 (i := sz + t) (by rw [padP_length sz _ _ (by omega) (by omega)]; omega)
      have f := E.frozen (sz + t)
      have hset := padP_set sz (n * 8) t h1.1 ht
      generalize (padP sz (n * 8) t).getD (sz + t) 0 = y at *
      have HSET := Lib.hid hset; clear hset
      have HE := Lib.hid (And.intro E B0); clear E B0
      have b1 : 0 ≤ 56 - 8 * (t : Int) := by omega
      go_wp2_with fail
      go_roundg (gk - 1)
      case measure => have := HTK.out; omega
      case rel =>
        obtain ⟨E, B0⟩ := HE.out
        refine ⟨t + 1, by have := HTK.out; omega, by go_num, ?_, B0.setCell (by simp) _⟩
        have ez : (n : Int) * 8 / 2 ^ (56 - 8 * t) % 256 = ((n * 8 / 2 ^ (56 - 8 * t) % 256 : Nat) : Int) := by
          rw [Int.natCast_emod, Int.natCast_ediv, Int.natCast_pow, Int.natCast_mul]; rfl
        rw [ez]
        exact E.set8 _ _ HSET.out
    · obtain rfl : t = 8 := by have := HTK.out; omega
      clear ht
      have HE := Lib.hid (And.intro E B0); clear E B0
      go_wp2_with fail
      go_ret
      obtain ⟨E, B0⟩ := HE.out
      obtain ⟨hs1, hl⟩ := HS.out
      have hp : padP sz (n * 8) 8 = padL n := by
        rw [padP_full, padL, hs1, Nat.mod_eq_of_lt (by omega)]
      rw [hp] at E
      exact ⟨by rw [hl]; rfl, E, B0⟩

set_option maxRecDepth 100000 in
theorem pad_any (n : Nat) (hn : n ≤ 72057594037927936) (w : World) :
    Calls Tryd.prog 29 #[.int .i64 n] w fun e w' => e = .returned (.tuple #[.slice (some ⟨w.heap.size, 0, none⟩) (padL n).length (padL n).length, .int .i64 0]) ∧ Blk w' w.heap.size 5 (u8s (padL n)) ∧ Below w.heap.size w w' := by
  have h1 : ((n : Int) < 0) = False := by simp
  go_enter Tryd.func29, Tryd.ntmps29
  go_wp2_with fail
  refine (padding_any n hn _).mono ?_; rintro e w1 ⟨rfl, E, B0⟩
  have HE := Lib.hid (And.intro E B0); clear E B0
  go_wp2_with fail
  go_ret2
  exact ⟨rfl, HE.out⟩
theorem pad_bad (n : Int) (hn : n < 0 ∨ 72057594037927936 < n) (w : World) :
    Calls Tryd.prog 29 #[.int .i64 n] w fun e w' => e = .returned (.tuple #[.slice none 0 0, .int .i64 2]) ∧ w' = w := by
  by_cases h : n < 0
  · go_enter Tryd.func29, Tryd.ntmps29
    go_wp2_with fail
    go_ret2
    exact ⟨rfl, rfl⟩
  · have h2 : 72057594037927936 < n := by omega
    have h3 : decide (n < 0) = false := by simpa using h
    go_enter Tryd.func29, Tryd.ntmps29
    go_wp2_with fail
    go_ret2
    exact ⟨rfl, rfl⟩
end Go.Proofs.YtediocpdpghbfaaDoor
