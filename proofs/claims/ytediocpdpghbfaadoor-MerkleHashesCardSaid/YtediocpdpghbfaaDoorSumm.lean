/- Sum -/
import Derived.Test.YtediocpdpghbfaaDoorWrit
set_option linter.unusedSimpArgs false
set_option linter.unusedVariables false
namespace Go.Proofs.YtediocpdpghbfaaDoor
open Go Go.RowKit

/-- the digest while it is being written -/
def digP (st : List Nat) (q : Nat) : List Nat := (digest st).take q ++ List.replicate (32 - q) 0
theorem digest_length (st : List Nat) : (digest st).length = 32 := by simp [digest]
theorem digP_length (st : List Nat) (q : Nat) (h : q ≤ 32) : (digP st q).length = 32 := by simp [digP, digest_length]; omega
theorem digP_full (st : List Nat) : digP st 32 = digest st := by rw [digP, List.take_of_length_le (by rw [digest_length]; omega)]; simp
theorem digP_set (st : List Nat) (i k : Nat) (hi : i < 8) (hk : k < 4) : (digP st (4 * i + k)).set (4 * i + k) (st.getD i 0 / 2 ^ (24 - 8 * k) % 256) = digP st (4 * i + k + 1) := by
  have hq : 4 * i + k < 32 := by omega
  have hb : (digest st)[4 * i + k]'(by rw [digest_length]; exact hq) = st.getD i 0 / 2 ^ (24 - 8 * k) % 256 := by
    simp only [digest, List.getElem_map, List.getElem_range]
    rw [show (4 * i + k) / 4 = i by omega, show (4 * i + k) % 4 = k by omega]
  generalize 4 * i + k = q at *
  obtain ⟨j, hj⟩ : ∃ j, 32 - q = j + 1 := ⟨31 - q, by omega⟩
  rw [digP, digP, hj, show 32 - (q + 1) = j by omega, List.set_append_right _ _ (by simp [digest_length]; omega), List.replicate_succ,
    List.take_succ_eq_append_getElem (by rw [digest_length]; exact hq), hb]
  have e : q - ((digest st).take q).length = 0 := by simp [digest_length]; omega
  rw [e]
  simp

theorem sha_states (m : List Nat) : states HH (m ++ padL m.length) ((m ++ padL m.length).length / 64) = states HH (padded m) ((padded m).length / 64) := rfl

theorem run_index_state (l : List Nat) (hl : l.length = 8) (i : Nat) (hi : i < 8) (w : World) :
    (Instr.index 30 (.agg (u32s l)) (.int .i64 (i : Int))).run Tryd.prog w = .ok (.int .u32 (l.getD i 0 : Nat)) w := by
  have h1 := u32s_at l i (by omega)
  have hs := size28
  cases hq : Tryd.prog.info? 28 with
  | none => simp [hq] at hs
  | some j =>
    have hj : j.size = 1 := by simpa [hq] using hs
    simp [Instr.index, asIntOf, run_underlying Tryd.underlying30, run_underlying Tryd.underlying28, Go.part, isAgg, sizeOf, typeInfo, hq, hj, h1, hi]
theorem size25 (l : List Nat) (h : l.length = 32) : (Tryd.prog.info? 25).map (·.size) = some (u8s l).size := by
  rw [u8s_size, h]; kernel_rfl

attribute [local go_sem ↓] ld25 st25
theorem msum_nil (w : World) : Calls Tryd.prog 28 #[.pointer none] w fun e w' => e = .returned (.agg (u8s (List.replicate 32 0))) ∧ Below w.heap.size w w' := by
  go_enter Tryd.func28, Tryd.ntmps28
  go_wp2_with (first
    | (refine wpList_load_row rfl 25 (.tmp 3) rfl (w.heap.size + 1) rfl 25 (u8s (List.replicate 32 0)) (0, 0) _ (Blk.new1 _ _ _ _) Tryd.underlying25 rfl (size25 _ rfl) ?_)
    | (refine wpList_store_row rfl 25 (.tmp 2) (.tmp 10) rfl w.heap.size (u8s (List.replicate 32 0)) rfl rfl 25 (u8s (List.replicate 32 0)) ((Blk.new _ _ _).alloc _) (size25 _ rfl) rfl (u8s_one _) ?_))
  exact bodyPost_ret (v := .agg (u8s (List.replicate 32 0))) (results_cell_row rfl _ _ w.heap.size 25 _ (0, 0) _ rfl (((Blk.new _ _ _).alloc _).setRow _) Tryd.underlying25 rfl (size25 _ rfl)) rfl
    ⟨rfl, below_setRow' (((Below.refl _ _).alloc (Nat.le_refl _) _).alloc (by simp) _) (Nat.le_refl _) _⟩

attribute [local go_sem ↓] ld30
set_option maxRecDepth 100000 in
theorem msum_any (w : World) (hT : Tabs w) (g : Nat) (m : List Nat) (hm : IsHash w g m) (hlen : m.length ≤ 72057594037927936) :
    Calls Tryd.prog 28 #[.pointer (some ⟨g, 0, none⟩)] w fun e w' => e = .returned (.agg (u8s (sha m))) ∧ Below w.heap.size w w' := by
  have hg := hm.lt
  have H0 := Lib.hid (And.intro hT hm); clear hT hm
  go_enter Tryd.func28, Tryd.ntmps28
  go_wp2_with fail
  obtain ⟨W2, hW2⟩ : ∃ W2, W2 = (w.alloc (.cells (u8s (List.replicate 32 0)) 25)).alloc (.cells (u8s (List.replicate 32 0)) 25) := ⟨_, rfl⟩
  change Calls _ _ _ ((w.alloc (.cells (u8s (List.replicate 32 0)) 25)).alloc (.cells (u8s (List.replicate 32 0)) 25)) _
  rw [← hW2]
  have hsz : W2.heap.size = w.heap.size + 1 + 1 := by rw [hW2]; simp
  have F1 : Blk W2 w.heap.size 25 (u8s (List.replicate 32 0)) := by rw [hW2]; exact (Blk.new _ _ _).alloc _
  have F2 : Blk W2 (w.heap.size + 1) 25 (u8s (List.replicate 32 0)) := by rw [hW2]; exact Blk.new1 _ _ _ _
  have F3 : Below w.heap.size w W2 := by rw [hW2]; exact ((Below.refl _ _).alloc (Nat.le_refl _) _).alloc (by simp) _
  have F4 : IsHash W2 g m := H0.out.2.below F3 hg
  have F5 : Tabs W2 := H0.out.1.below F3 H0.out.1.two
  clear hW2
  have hs1 : w.heap.size + 1 < W2.heap.size := by omega
  have hs2 : W2.heap.size ≤ w.heap.size + 1 + 1 := by omega
  clear hsz
  refine (clone_any W2 g m F4).mono ?_; rintro e w3 ⟨rfl, C1, C2⟩
  have F4' := F4.below C2 F4.lt
  have F5' := F5.below C2 F5.two
  have HA := Lib.hid (And.intro F1 (And.intro F2 (And.intro F3 (And.intro C1 (And.intro C2 F5'))))); clear F1 F2 F3 F4 F5 C1 C2 F5'
  obtain ⟨buf, h1, h2, h3, h4⟩ := F4'
  have cl := (h4.cell 72).trans (hcells_len _ buf _ (states_length rfl _ _) h1)
  clear h1 h2 h3 h4
  go_wp2_with fail
  refine (padding_any m.length hlen w3).mono ?_; rintro e w4 ⟨rfl, P1, P2⟩
  have g3 : W2.heap.size < w3.heap.size := HA.out.2.2.2.1.lt
  have C3 := HA.out.2.2.2.1.below P2 g3
  have T3 := HA.out.2.2.2.2.2.below P2 HA.out.2.2.2.2.2.two
  have hp : RB w4 W2.heap.size (some ⟨w3.heap.size, 0, none⟩) (padL m.length) := fun _ => ⟨_, 0, rfl, by omega, P1.lt, fun j hj => by rw [Nat.zero_add]; exact P1.u8 hj⟩
  have hpl := padL_length m.length
  have hps := padSize_pos m.length
  have HB := Lib.hid (And.intro P1 (And.intro P2 (And.intro C3 (And.intro T3 (And.intro hp hpl))))); clear P1 P2 C3 T3 hp hpl
  go_wp2_with fail
  refine (write_any w4 HB.out.2.2.2.1 W2.heap.size (by have := H0.out.1.two; omega) m (padL m.length) HB.out.2.2.1 _ _ (Nat.le_refl _) (Bytes.padL _) HB.out.2.2.2.2.1 (by rw [HB.out.2.2.2.2.2]; omega)).mono ?_
  rintro e w5 ⟨rfl, I5, G5⟩
  have g5 : w.heap.size + 1 + 1 ≤ w4.heap.size := by have := HB.out.1.lt; omega
  obtain ⟨F1, F2, F3, C1, C2, T0⟩ := HA.out
  obtain ⟨P1, P2, C3, T3, hp, hpl⟩ := HB.out
  have K1 : Blk w5 w.heap.size 25 (u8s (List.replicate 32 0)) := ((F1.below C2 (by omega)).below P2 (by omega)).grown G5 (by simp; omega)
  have K2 : Blk w5 (w.heap.size + 1) 25 (u8s (digP (states HH (padded m) ((padded m).length / 64)) 0)) := ((F2.below C2 (by omega)).below P2 (by omega)).grown G5 (by simp; omega)
  have K3 : Below w.heap.size w w5 := (F3.trans ((C2.mono (by omega)).trans (P2.mono (by omega)))).grown G5 (by omega) (fun k hk => by injection hk with hk; omega)
  obtain ⟨buf', h1, h2, h3, h4⟩ := I5
  rw [sha_states] at h4
  have hstl : (states HH (padded m) ((padded m).length / 64)).length = 8 := states_length rfl _ _
  have hsw : Words (states HH (padded m) ((padded m).length / 64)) := states_words words_HH _ _
  have hsha : sha m = digest (states HH (padded m) ((padded m).length / 64)) := rfl
  generalize states HH (padded m) ((padded m).length / 64) = st at *
  have ld : (loadAgg 30 (.pointer (some ⟨W2.heap.size, 0, none⟩))).run Tryd.prog w5 = .ok (.agg (u32s st)) w5 := by
    have := loadAgg_run (P := Tryd.prog) (w := w5) (ty := 30) (g := W2.heap.size) (off := 0) (u32s st).toList Tryd.underlying30 rfl (by simp only [Array.length_toList, u32s_size, hstl]; kernel_rfl) (fun j v hv => by
      rw [Nat.zero_add, h4.cell, hcells_state _ _ _ hstl j (by have := (List.getElem?_eq_some_iff.1 hv).1; simpa [u32s_size, hstl] using this)]; simpa using hv)
    simpa using this
  have HC := Lib.hid (And.intro K1 (And.intro K2 (And.intro K3 (And.intro hsha hstl))))
  clear K1 K2 K3 h1 h2 h3 h4 F1 F2 F3 C1 C2 T0 P1 P2 C3 T3 hp hpl G5 HA HB H0 hsha cl hps g3 g5
  go_wp2_with fail
  go_loopg [24] 8 (fun k i wr => ∃ t : Nat, t + k = 8 ∧ i = .int .i64 t ∧ Blk wr w.heap.size 25 (u8s (List.replicate 32 0)) ∧ Blk wr (w.heap.size + 1) 25 (u8s (digP st (4 * t))) ∧ Below w.heap.size w wr)
  case atStart => obtain ⟨K1, K2, K3, _⟩ := HC.out; exact ⟨0, rfl, rfl, K1, K2, K3⟩
  case round =>
    obtain ⟨t, htk, rfl, K1, K2, K3⟩ := hrel
    have HTK := Lib.hid htk; clear htk
    obtain ⟨wo, rfl⟩ : ∃ wo : World, wo = wr := ⟨_, rfl⟩
    obtain ⟨ko, rfl⟩ : ∃ ko : Nat, ko = gk := ⟨_, rfl⟩
    by_cases ht : t < 8
    · have hix := run_index_state st HC.out.2.2.2.2 t ht
      have lx := hsw t
      generalize hx : st.getD t 0 = x at *
      have HX := Lib.hid hx; clear hx
      have HE := Lib.hid (And.intro K1 (And.intro K2 K3)); clear K1 K2 K3
      go_wp2_with fail
      go_loopg [28] 4 (fun k i wr => ∃ q : Nat, q + k = 4 ∧ i = .int .i64 q ∧ Blk wr w.heap.size 25 (u8s (List.replicate 32 0)) ∧ Blk wr (w.heap.size + 1) 25 (u8s (digP st (4 * t + q))) ∧ Below w.heap.size w wr)
      case atStart => obtain ⟨K1, K2, K3⟩ := HE.out; exact ⟨0, rfl, rfl, K1, K2, K3⟩
      case round =>
        obtain ⟨q, hqk, rfl, K1, K2, K3⟩ := hrel
        have HQK := Lib.hid hqk; clear hqk HE
        by_cases hq : q < 4
        · have c := K2.u8 (i := 4 * t + q) (by rw [digP_length _ _ (by omega)]; omega)
          have f := K2.frozen (4 * t + q)
          have hset := digP_set st t q ht hq
          rw [HX.out] at hset
          generalize (digP st (4 * t + q)).getD (4 * t + q) 0 = y at *
          have HSET := Lib.hid hset; clear hset
          have HE := Lib.hid (And.intro K1 (And.intro K2 K3)); clear K1 K2 K3
          have b1 : 0 ≤ 24 - 8 * (q : Int) := by omega
          go_wp2_with fail
          go_roundg (gk - 1)
          case measure => have := HQK.out; omega
          case rel =>
            obtain ⟨K1, K2, K3⟩ := HE.out
            refine ⟨q + 1, by have := HQK.out; omega, by go_num, K1.far (by simp) _, ?_, K3.setCell (by simp) _⟩
            have ez : (x : Int) / 2 ^ (24 - 8 * q) % 256 = ((x / 2 ^ (24 - 8 * q) % 256 : Nat) : Int) := by
              rw [Int.natCast_emod, Int.natCast_ediv, Int.natCast_pow]; rfl
            rw [ez]
            exact K2.set8 _ _ HSET.out
        · obtain rfl : q = 4 := by have := HQK.out; omega
          clear hq
          have HE := Lib.hid (And.intro K1 (And.intro K2 K3)); clear K1 K2 K3
          go_wp2_with fail
          go_roundg (ko - 1)
          case measure => have := HTK.out; omega
          case rel =>
            obtain ⟨K1, K2, K3⟩ := HE.out
            exact ⟨t + 1, by have := HTK.out; omega, by go_num, K1, K2, K3⟩
    · obtain rfl : t = 8 := by have := HTK.out; omega
      clear ht
      rw [show 4 * 8 = 32 from rfl, digP_full] at K2
      have hl32 := digest_length st
      have HL := Lib.hid hl32; clear hl32
      have HE := Lib.hid (And.intro K1 (And.intro K2 K3)); clear K1 K2 K3
      go_wp2_with (first
        | (refine wpList_load_row rfl 25 (.tmp 3) rfl (w.heap.size + 1) rfl 25 (u8s (digest st)) (0, 0) _ HE.out.2.1 Tryd.underlying25 rfl (size25 _ HL.out) ?_)
        | (refine wpList_store_row rfl 25 (.tmp 2) (.tmp 44) rfl w.heap.size (u8s (digest st)) rfl rfl 25 (u8s (List.replicate 32 0)) HE.out.1 (size25 _ HL.out) (by rw [u8s_size, u8s_size, HL.out]; rfl) (u8s_one _) ?_))
      obtain ⟨K1, K2, K3⟩ := HE.out
      refine bodyPost_ret (v := .agg (u8s (digest st))) (results_cell_row rfl _ _ w.heap.size 25 _ (0, 0) _ rfl (K1.setRow _) Tryd.underlying25 rfl (size25 _ HL.out)) rfl ⟨?_, below_setRow' K3 (Nat.le_refl _) _⟩
      rw [HC.out.2.2.2.1]

set_option maxRecDepth 100000 in
/-- Sum(b) -/
theorem sum_any (w : World) (hT : Tabs w) (b : List Nat) (A : Option Addr) (cap : Nat) (hcap : b.length ≤ cap) (hB : Bytes b) (hr : RB w w.heap.size A b) (hlen : b.length ≤ 72057594037927936) :
    Calls Tryd.prog 20 #[.slice A b.length cap] w fun e w' => e = .returned (.agg (u8s (sha b))) ∧ Below w.heap.size w w' := by
  have hw2 := hT.two
  have H0 := Lib.hid (And.intro hT (And.intro hB hr)); clear hT hB hr
  go_enter Tryd.func20, Tryd.ntmps20
  go_wp2_with fail
  obtain ⟨W2, hW2⟩ : ∃ W2, W2 = w.alloc (.cells (u8s (List.replicate 32 0)) 25) := ⟨_, rfl⟩
  change Calls _ _ _ (w.alloc (.cells (u8s (List.replicate 32 0)) 25)) _
  rw [← hW2]
  have hs1 : w.heap.size < W2.heap.size := by rw [hW2]; simp
  have F1 : Blk W2 w.heap.size 25 (u8s (List.replicate 32 0)) := by rw [hW2]; exact Blk.new _ _ _
  have F3 : Below w.heap.size w W2 := by rw [hW2]; exact (Below.refl _ _).alloc (Nat.le_refl _) _
  clear hW2
  obtain ⟨hT, hB, hr⟩ := H0.out
  have F5 : Tabs W2 := hT.below F3 hT.two
  refine (new_any W2 F5).mono ?_; rintro e w3 ⟨rfl, N1, N2⟩
  have T3 := F5.below N2 F5.two
  have F6 : Below w.heap.size w w3 := F3.trans (N2.mono (by omega))
  have R3 : RB w3 W2.heap.size A b := hr.move F6 (by omega)
  have F1' := F1.below N2 hs1
  have HA := Lib.hid (And.intro T3 (And.intro R3 (And.intro F1' (And.intro F6 (And.intro N1 hB))))); clear T3 R3 F1' F6 N1 N2 F1 F3 F5 hT hB hr H0
  go_wp2_with fail
  refine (write_any w3 HA.out.1 W2.heap.size (by omega) [] b HA.out.2.2.2.2.1 A cap hcap HA.out.2.2.2.2.2 HA.out.2.1 (by simp; omega)).mono ?_
  rintro e w4 ⟨rfl, I4, G4⟩
  rw [List.nil_append] at I4
  obtain ⟨T3, R3, F1, F6, N1, hB⟩ := HA.out
  have T4 := T3.grown G4 (by omega)
  have F4 := F1.grown G4 (by simp; omega)
  have F7 : Below w.heap.size w w4 := F6.grown G4 F6.size (fun k hk => by injection hk with hk; omega)
  have HB := Lib.hid (And.intro T4 (And.intro F4 (And.intro F7 I4))); clear T3 R3 F1 F6 N1 hB T4 F4 F7 I4 G4 HA
  go_wp2_with fail
  refine (msum_any w4 HB.out.1 W2.heap.size b HB.out.2.2.2 hlen).mono ?_
  rintro e w5 ⟨rfl, B5⟩
  obtain ⟨T4, F4, F7, I4⟩ := HB.out
  have F5 := F4.below B5 F4.lt
  have F8 : Below w.heap.size w w5 := F7.trans (B5.mono F7.size)
  have HC := Lib.hid (And.intro F5 F8); clear T4 F4 F7 I4 B5 F5 F8 HB
  go_wp2_with (refine wpList_store_row rfl 25 (.tmp 2) (.tmp 9) rfl w.heap.size (u8s (sha b)) rfl rfl 25 (u8s (List.replicate 32 0)) HC.out.1 (size25 _ (sha_length b)) (by rw [u8s_size, u8s_size, sha_length]; rfl) (u8s_one _) ?_)
  exact bodyPost_ret (v := .agg (u8s (sha b))) (results_cell_row rfl _ _ w.heap.size 25 _ (0, 0) _ rfl (HC.out.1.setRow _) Tryd.underlying25 rfl (size25 _ (sha_length b))) rfl ⟨rfl, below_setRow' HC.out.2 (Nat.le_refl _) _⟩
end Go.Proofs.YtediocpdpghbfaaDoor
