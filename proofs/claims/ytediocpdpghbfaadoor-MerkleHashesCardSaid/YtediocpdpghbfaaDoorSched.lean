/- schedule -/
import Derived.Test.YtediocpdpghbfaaDoorSpec
import Derived.Deep.LoopGhost
import Derived.Deep.DeepFit
set_option linter.unusedSimpArgs false
set_option linter.unusedVariables false
namespace Go.Proofs.YtediocpdpghbfaaDoor
open Go Go.RowKit

theorem shl8_or (p c : Nat) (hp : p < 16777216) (hc : c < 256) :
    bits .or .u32 ((p : Int) * 256) (c : Int) = ((p * 256 + c : Nat) : Int) := by
  have e1 : ((p : Int) * 256) = ((p * 256 : Nat) : Int) := by omega
  rw [e1, bits_or_u32 _ _ (by omega) (by omega)]
  have := Nat.two_pow_add_eq_or_of_lt (i := 8) (show c < 2 ^ 8 by omega) p
  rw [show p * 256 = 2 ^ 8 * p by omega, this]

theorem zeros64 (w : World) : Blk (w.alloc (.cells #[] 29)) w.heap.size 29 (u32s []) := Blk.new _ _ _

theorem s0_lt (x : Nat) (h : x < 4294967296) : s0 x < 4294967296 :=
  Nat.xor_lt_two_pow (n := 32) (Nat.xor_lt_two_pow (n := 32) (rotr_lt x 7 h) (rotr_lt x 18 h)) (by omega)
theorem s1_lt (x : Nat) (h : x < 4294967296) : s1 x < 4294967296 :=
  Nat.xor_lt_two_pow (n := 32) (Nat.xor_lt_two_pow (n := 32) (rotr_lt x 17 h) (rotr_lt x 19 h)) (by omega)
theorem s0_walk (x : Nat) (h : x < 4294967296) : bits .xor .u32 (bits .xor .u32 (rotr x 7 : Nat) (rotr x 18 : Nat)) ((x : Int) / 8) = (s0 x : Nat) := by
  have e : ((x : Int) / 8) = ((x / 8 : Nat) : Int) := by omega
  rw [e, bits_xor_u32 _ _ (rotr_lt x 7 h) (rotr_lt x 18 h), bits_xor_u32 _ _ (Nat.xor_lt_two_pow (n := 32) (rotr_lt x 7 h) (rotr_lt x 18 h)) (by omega)]
  rfl
theorem s1_walk (x : Nat) (h : x < 4294967296) : bits .xor .u32 (bits .xor .u32 (rotr x 17 : Nat) (rotr x 19 : Nat)) ((x : Int) / 1024) = (s1 x : Nat) := by
  have e : ((x : Int) / 1024) = ((x / 1024 : Nat) : Int) := by omega
  rw [e, bits_xor_u32 _ _ (rotr_lt x 17 h) (rotr_lt x 19 h), bits_xor_u32 _ _ (Nat.xor_lt_two_pow (n := 32) (rotr_lt x 17 h) (rotr_lt x 19 h)) (by omega)]
  rfl
theorem size29 (l : List Nat) (h : l.length = 64) : (Tryd.prog.info? 29).map (·.size) = some (u32s l).size := by
  rw [u32s_size, h]; kernel_rfl
theorem getD_set_same (l : List Nat) (i x : Nat) (h : i < l.length) : (l.set i x).getD i 0 = x := by
  simp [List.getD_eq_getElem?_getD, h]
theorem set_zero (b : List Nat) (n : Nat) (h : n < 16) : (pad64 (words b n)).set n (part b n 0) = pad64 (words b n) := by
  have := pad64_set (words b n) 0 (by rw [words_length]; omega)
  rw [words_length] at this
  rw [part, this, pad64, pad64, List.length_append, words_length]
  obtain ⟨k, hk⟩ : ∃ k, 64 - n = k + 1 := ⟨63 - n, by omega⟩
  rw [hk, show 64 - (n + [0].length) = k by simp; omega, List.replicate_succ]
  simp
set_option maxRecDepth 100000 in
theorem sched_any (b : List Nat) (hb : b.length = 64) (hB : Bytes b) (w : World) :
    Calls Tryd.prog 68 #[.agg (u8s b)] w fun e w' => e = .returned (.agg (u32s (sched b))) ∧ Below w.heap.size w w' := by
  go_enter Tryd.func68, Tryd.ntmps68
  go_wp2
  go_loopg [12] 16 (fun k i wr => ∃ n : Nat, n + k = 16 ∧ i = .int .i64 n ∧ Blk wr w.heap.size 37 (u8s b) ∧ Blk wr (w.heap.size + 1 + 1) 29 (u32s (pad64 (words b n))) ∧
     Blk wr (w.heap.size + 1) 29 (u32s (pad64 [])) ∧ Below w.heap.size w wr)
  case atStart =>
    refine ⟨0, rfl, rfl, ?_, ?_, ?_, ?_⟩
    · exact ((Blk.new w _ _).alloc _).alloc _
    · exact Blk.new2 _ _ _ _ _
    · exact (Blk.new1 _ _ _ _).alloc _
    · exact (((Below.refl _ _).alloc (Nat.le_refl _) _).alloc (by simp) _).alloc (by simp; omega) _
  case round =>
    obtain ⟨n, hnk, rfl, hb1, hb3, hb2, hbel⟩ := hrel
    have HNK := Lib.hid hnk; clear hnk
    by_cases hlt : n < 16
    · have q0 : 0 ≤ 4 * (n : Int) := by omega
      have q1 : 4 * (n : Int) ≤ 4 * n + 4 := by omega
      have q2 : 4 * (n : Int) + 4 ≤ 64 := by omega
      obtain ⟨wo, rfl⟩ : ∃ wo : World, wo = wr := ⟨_, rfl⟩
      obtain ⟨ko, rfl⟩ : ∃ ko : Nat, ko = gk := ⟨_, rfl⟩
      go_wp2
      go_loopg [22] 4 (fun k j wi => ∃ m : Nat, m + k = 4 ∧ j = .int .i64 m ∧ Blk wi w.heap.size 37 (u8s b) ∧ Blk wi (w.heap.size + 1 + 1) 29 (u32s ((pad64 (words b n)).set n (part b n m))) ∧
        Blk wi (w.heap.size + 1) 29 (u32s (pad64 [])) ∧ Below w.heap.size w wi)
      case atStart =>
        refine ⟨0, rfl, rfl, hb1, ?_, hb2, hbel⟩
        rw [show (pad64 (words b n)).set n (part b n 0) = pad64 (words b n) from set_zero b n hlt]
        exact hb3
      case round =>
        obtain ⟨m, hmk, rfl, hc1, hc3, hc2, hcel⟩ := hrel
        have HMK := Lib.hid hmk; clear hmk hb1 hb2 hb3 hbel
        by_cases hm : m < 4
        · obtain ⟨c, hc⟩ : ∃ c, b.getD (4 * n + m) 0 = c := ⟨_, rfl⟩
          have c256 : c < 256 := by rw [← hc]; exact hB _
          have p24 : part b n m < 16777216 := Nat.lt_of_lt_of_le (part_lt b hB n m) (Nat.le_trans (Nat.pow_le_pow_right (by omega) (show m ≤ 3 by omega)) (by decide))
          have d1 := hc1.u8 (show 4 * n + m < b.length by omega)
          have d3 := hc3.u32 (i := n) (by rw [List.length_set, pad64_length _ (by rw [words_length]; omega)]; omega)
          have f3 := hc3.frozen n
          rw [hc] at d1
          rw [getD_set_same _ _ _ (by rw [pad64_length _ (by rw [words_length]; omega)]; omega)] at d3
          have hq : part b n (m + 1) = part b n m * 256 + c := by rw [part, hc]
          have e8 := shl8_or _ _ p24 c256
          rw [← hq] at e8
          generalize hp' : part b n (m + 1) = q at *
          generalize part b n m = p at *
          have HQ := Lib.hid hp'; clear hp' hq hc
          go_wp2
          go_roundg (gk - 1)
          case measure => have := HMK.out; omega
          case rel =>
            refine ⟨m + 1, by have := HMK.out; omega, by go_num, hc1.far (by simp; omega) _, ?_, hc2.far (by simp) _, hcel.setCell (by simp; omega) _⟩
            have := hc3.set_ n (.int .u32 (q : Int))
            rw [u32s_set, set_same] at this
            rw [HQ.out]
            exact this
        · obtain rfl : m = 4 := by have := HMK.out; omega
          clear hm
          go_wp2
          go_roundg (ko - 1)
          case measure => have := HNK.out; omega
          case rel =>
            refine ⟨n + 1, by have := HNK.out; omega, by go_num, hc1, ?_, hc2, hcel⟩
            have := pad64_set (words b n) (word b n) (by rw [words_length]; omega)
            rw [words_length] at this
            rw [words_succ, ← this]
            exact hc3
    · obtain rfl : n = 16 := by have := HNK.out; omega
      clear hlt
      go_wp2
      go_loopg [7] 48 (fun k j wi => ∃ t : Nat, t + k = 64 ∧ 16 ≤ t ∧ j = .int .i64 t ∧ Blk wi (w.heap.size + 1 + 1) 29 (u32s (pad64 (ext (words b 16) (t - 16)))) ∧
        Blk wi (w.heap.size + 1) 29 (u32s (pad64 [])) ∧ Below w.heap.size w wi)
      case atStart => exact ⟨16, rfl, Nat.le_refl _, rfl, hb3, hb2, hbel⟩
      case round =>
        obtain ⟨t, htk, ht16, rfl, hc3, hc2, hcel⟩ := hrel
        have HTK := Lib.hid htk; clear htk hb1 hb2 hb3 hbel
        by_cases ht : t < 64
        · have HL : (ext (words b 16) (t - 16)).length = t := by rw [ext_length, words_length]; omega
          have HW : Words (ext (words b 16) (t - 16)) := words_ext _ (words_words b hB 16) _
          generalize hL : ext (words b 16) (t - 16) = L at *
          have d15 := hc3.u32 (i := t - 15) (by rw [pad64_length _ (by omega)]; omega)
          have d2 := hc3.u32 (i := t - 2) (by rw [pad64_length _ (by omega)]; omega)
          have d7 := hc3.u32 (i := t - 7) (by rw [pad64_length _ (by omega)]; omega)
          have d16 := hc3.u32 (i := t - 16) (by rw [pad64_length _ (by omega)]; omega)
          have dt := hc3.u32 (i := t) (by rw [pad64_length _ (by omega)]; omega)
          have f3 := hc3.frozen t
          rw [pad64_getD _ _ (by omega)] at d15 d2 d7 d16
          have l15 := HW (t - 15); have l2 := HW (t - 2); have l7 := HW (t - 7); have l16 := HW (t - 16)
          have hn : nextW L = (s1 (L.getD (t - 2) 0) + L.getD (t - 7) 0 + s0 (L.getD (t - 15) 0) + L.getD (t - 16) 0) % 4294967296 := by rw [nextW, HL]
          generalize (pad64 L).getD t 0 = xt at *
          generalize L.getD (t - 15) 0 = x15 at *
          generalize L.getD (t - 2) 0 = x2 at *
          generalize L.getD (t - 7) 0 = x7 at *
          generalize L.getD (t - 16) 0 = x16 at *
          have e0 := s0_walk x15 l15
          have e1 := s1_walk x2 l2
          have k0 := s0_lt x15 l15
          have k1 := s1_lt x2 l2
          generalize s0 x15 = y0 at *
          generalize s1 x2 = y1 at *
          have HN := Lib.hid (And.intro hn (And.intro HL hL)); clear hn HL hL HW
          go_wp2_with fail
          go_quiet (fail)
          go_wp2_with fail
          refine (rotl_any x15 7 l15 (by omega) _).mono ?_; rintro e w' ⟨rfl, rfl⟩
          go_wp2_with fail
          refine (rotl_any x15 18 l15 (by omega) _).mono ?_; rintro e w' ⟨rfl, rfl⟩
          go_wp2_with fail
          refine (rotl_any x2 17 l2 (by omega) _).mono ?_; rintro e w' ⟨rfl, rfl⟩
          go_wp2_with fail
          refine (rotl_any x2 19 l2 (by omega) _).mono ?_; rintro e w' ⟨rfl, rfl⟩
          go_wp2_with fail
          go_region
          go_wp2
          go_roundg (gk - 1)
          case measure => have := HTK.out; omega
          case rel =>
            obtain ⟨hn, HL, hL⟩ := HN.out
            have ez : ((y1 : Int) + x7 + y0 + x16) % 4294967296 = (nextW L : Nat) := by rw [hn]; omega
            refine ⟨t + 1, by have := HTK.out; omega, by omega, by go_num, ?_, (hc2.drewN _).far (by simp) _, (below_drewN hcel _).setCell (by simp; omega) _⟩
            have h := (hc3.drewN (nq + 1)).set_ t (.int .u32 (nextW L : Nat))
            rw [u32s_set, ← HL, pad64_set L _ (by omega)] at h
            rw [show t + 1 - 16 = (t - 16) + 1 by omega, ext, hL, ez]
            rw [HL] at h
            exact h
        · obtain rfl : t = 64 := by have := HTK.out; omega
          clear ht
          have hl64 : (ext (words b 16) 48).length = 64 := by rw [ext_length, words_length]
          rw [show (64 : Nat) - 16 = 48 from rfl, pad64_full _ hl64] at hc3
          go_wp2_with (first
            | (refine wpList_load_row rfl 29 (.tmp 3) rfl (w.heap.size + 1 + 1) rfl 29 (u32s (ext (words b 16) 48)) (0, 0) _ hc3 Tryd.underlying29 rfl (size29 _ hl64) ?_)
            | (refine wpList_store_row rfl 29 (.tmp 2) (.tmp 80) rfl (w.heap.size + 1) (u32s (ext (words b 16) 48)) rfl rfl 29 (u32s (pad64 [])) hc2 (size29 _ hl64) (by rw [u32s_size, u32s_size, hl64]; rfl) (u32s_one _) ?_))
          exact bodyPost_ret (v := .agg (u32s (ext (words b 16) 48))) (results_cell_row rfl _ _ (w.heap.size + 1) 29 _ (0, 0) _ rfl (hc2.setRow _) Tryd.underlying29 rfl (size29 _ hl64)) rfl
            ⟨rfl, below_setRow' hcel (by omega) _⟩
end Go.Proofs.YtediocpdpghbfaaDoor
