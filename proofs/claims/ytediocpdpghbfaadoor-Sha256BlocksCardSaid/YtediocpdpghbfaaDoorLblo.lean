/- The law of Blocks: the walk. -/
import Derived.Test.YtediocpdpghbfaaDoorLclo
set_option linter.unusedSimpArgs false
set_option linter.unusedVariables false
namespace Go.Proofs.YtediocpdpghbfaaDoor
open Go Go.RowKit

theorem field_H (w : World) : (Instr.field 32 (.agg (u32s TT)) 1).run Tryd.prog w = .ok (.agg (u32s HH)) w := by kernel_rfl
theorem load37_at {w : World} {gl ol lo : Nat} {bk : List Nat} (hl : bk.length = 64) (h : ∀ j, j < 64 → w.cell? ⟨gl, ol + lo + j, none⟩ = some (.int .u8 (bk.getD j 0 : Nat))) :
    (loadAgg 37 (.pointer (some ⟨gl, ol + lo, none⟩))).run Tryd.prog w = .ok (.agg (u8s bk)) w := by
  have := loadAgg_run (P := Tryd.prog) (w := w) (ty := 37) (g := gl) (off := ol + lo) (u8s bk).toList Tryd.underlying37 rfl (by rw [Array.length_toList]; exact size37l bk hl) (fun j v hv => by
    have hj : j < 64 := by have := (List.getElem?_eq_some_iff.1 hv).1; simpa [u8s_size, hl] using this
    rw [h j hj]
    have := u8s_at bk j (by omega)
    rw [← this]; simpa using hv)
  simpa using this
theorem undrew {w w' : World} (h : Below w.drew.heap.size w.drew w') : Below w.heap.size w w' := ⟨h.os, h.tape, h.output, h.size, h.block⟩
theorem arrayAt37 (a : Option Addr) (c : Nat) (w : World) : (Instr.arrayAt 37 (.slice a 64 c)).run Tryd.prog w = .ok (.pointer a) w := by
  simp [Instr.arrayAt, run_underlying Tryd.underlying37, Result.andThen]
attribute [local go_sem] arrayAt37
attribute [local go_sem ↓] ld30 ld37 st30 ld25 st25
set_option maxRecDepth 100000 in
set_option maxHeartbeats 2000000 in
theorem law_blocks (w : World) (hT : Tabs w) (b : List Nat) (A : Option Addr) (ca : Nat) (n : Nat) (lb : b.length = n) (ha : n ≤ ca) (hB : Bytes b) (hr : RW w A ca b) :
    Calls Tryd.prog 8 #[.slice A n ca] w fun e w' => e = .returned (.bool true) ∧ Below w.heap.size w w' := by
  have two := hT.two
  have H0 := Lib.hid (And.intro hT (And.intro lb (And.intro hB hr)))
  clear hT lb hB hr
  by_cases hbig : 500 < n
  · go_enter Tryd.func8, Tryd.ntmps8
    go_wp2_with fail
    refine (known_any w H0.out.1).mono ?_
    rintro e w1 ⟨rfl, B1⟩
    have H1 := Lib.hid B1; clear B1
    go_wp2_with fail
    go_ret
    exact ⟨rfl, H1.out⟩
  have hn : n ≤ 500 := by omega
  have hp := pad_any n (by omega) w
  have hpl : 9 ≤ (padL n).length ∧ (padL n).length ≤ 72 := by have := padSize_pos n; rw [padL_length]; omega
  obtain ⟨m, hm⟩ : ∃ m, (padL n).length = m := ⟨_, rfl⟩
  rw [hm] at hp hpl
  have HP := Lib.hid hp
  clear hp
  have hmod : ((n + m) % 64 = 0) := by rw [← hm]; exact padL_mod n
  have t1 : (((n : Int) + (m : Int)) % 64 != 0) = false := by rw [bne_eq_false_iff_eq]; omega
  go_enter Tryd.func8, Tryd.ntmps8
  go_wp2_with fail
  refine HP.out.mono ?_
  rintro e w1 ⟨rfl, E1, B1⟩
  have H1 := Lib.hid (And.intro (E1.rw (c := m)) (At.mk H0.out.1 B1))
  clear E1 B1 HP
  go_wp2_with (first
      | (at_builtin; refine wpList_app8 rfl (.tmp 20) (.tmp 21) rfl w1.heap.size _ 0 0 [] rfl (ob_empty _ (Nat.le_refl _)) A n ca b rfl H0.out.2.1 ((H0.out.2.2.2.below H1.out.2.b).alloc _) (by omega) (by simp) ?_; intro A1 c1 w2 O2 B2 _; simp only [Nat.zero_add, List.nil_append] at O2; have H2 := Lib.hid (And.intro O2 (((Below.refl _ _).alloc (Nat.le_refl _) _).trans B2)); clear O2 B2)
      | (at_builtin; refine wpList_app8 rfl (.tmp 22) (.tmp 23) rfl w1.heap.size A1 n c1 b rfl H2.out.1 _ m _ (padL n) rfl hm (H1.out.1.below H2.out.2) (by omega) H2.out.2.size ?_; intro A2 c2 w3 O3 B3 _; have H3 := Lib.hid (And.intro O3 B3); clear O3 B3))
  have F4 := H3.out.1.rw
  have hcap := H3.out.1.cap_le
  have s3 : At w w3 := H1.out.2.step (H2.out.2.trans H3.out.2)
  have hlen : (b ++ padL n).length = n + m := by rw [List.length_append, H0.out.2.1, hm]
  have hLp : b ++ padL n = padded b := by rw [padded, H0.out.2.1]
  have hLB : Bytes (padded b) := by rw [padded]; exact H0.out.2.2.1.append (Bytes.padL _)
  have hsha : sha b = digest (states HH (padded b) ((padded b).length / 64)) := rfl
  rw [hLp] at F4 hlen
  have HS := Lib.hid (fun W (s : At w W) => sum_any W s.t b A ca (by rw [H0.out.2.1]; exact ha) H0.out.2.2.1 ((H0.out.2.2.2.below s.b).rb (Nat.le_refl _)) (by rw [H0.out.2.1]; omega))
  rw [H0.out.2.1, hsha] at HS
  clear hLp hsha H1 H2 H3 hm
  generalize padded b = L at *
  obtain ⟨K, hK⟩ : ∃ K, L.length = 64 * K := ⟨L.length / 64, by omega⟩
  have hnm : n + m = 64 * K := by omega
  have hK1 : 1 ≤ K := by omega
  rw [hnm] at hcap ⊢
  rw [hK, show 64 * K / 64 = K by omega] at HS
  have hLne : L ≠ [] := by intro e; rw [e] at hK; simp at hK; omega
  have hA2 : ∃ gl ol, A2 = some ⟨gl, ol, none⟩ := by
    cases A2 with
    | none => have := (F4.1 rfl).2; rw [this] at hK; simp at hK; omega
    | some ad => obtain ⟨gl, ol, sp⟩ := ad; have := (F4.2 _ rfl hLne).1; simp only at this; subst this; exact ⟨gl, ol, rfl⟩
  obtain ⟨gl, ol, rfl⟩ := hA2
  obtain ⟨_, hgl, hcl⟩ := F4.2 _ rfl hLne
  simp only at hgl hcl
  clear hLne F4 hmod hlen
  have HM := Lib.hid make_any
  have hfH := field_H
  generalize TT = T at *
  have HA := Lib.hid (And.intro s3 (And.intro hgl (And.intro hcl (And.intro hLB hK))))
  clear s3 hgl hcl hLB hK
  refine (HM.out _).mono ?_
  rintro e w4 ⟨rfl, B4⟩
  have H4 := Lib.hid B4
  clear B4
  go_wp2_with (refine wpList_store_row rfl 30 (.tmp 6) (.tmp 34) rfl w4.heap.size (u32s HH) rfl rfl 30 (u32s (List.replicate 8 0)) (Blk.new _ _ _) (size30l _ rfl) rfl (u32s_one _) ?_)
  obtain ⟨W5, hW5⟩ : ∃ W5, W5 = (w4.alloc (.cells (u32s (List.replicate 8 0)) 30)).setRow w4.heap.size (u32s HH) := ⟨_, rfl⟩
  change Code.wp _ _ _ _ ((w4.alloc (.cells (u32s (List.replicate 8 0)) 30)).setRow w4.heap.size (u32s HH))
  rw [← hW5]
  have F1 : Blk W5 w4.heap.size 30 (u32s HH) := by rw [hW5]; exact (Blk.new _ _ _).setRow _
  have F2 : Below w3.heap.size w3 W5 := by rw [hW5]; exact below_setRow' (H4.out.alloc H4.out.size _) H4.out.size _
  have g34 : w3.heap.size ≤ w4.heap.size := H4.out.size
  generalize w4.heap.size = gs at *
  clear hW5 hfH
  have HF := Lib.hid (And.intro F1 F2)
  clear F1 F2 H4
  go_loopg [7] K (fun f iv wr => ∃ q : Nat, q + f = K ∧ iv = .int .i64 (64 * q : Nat) ∧ Blk wr gs 30 (u32s (states HH L q)) ∧ Below w3.heap.size w3 wr)
  case atStart => exact ⟨0, by omega, rfl, HF.out.1, HF.out.2⟩
  case round =>
    obtain ⟨q, hqf, rfl, E, B0⟩ := hrel
    have hKK := HA.out.2.2.2.2
    have hLB := HA.out.2.2.2.1
    by_cases hq : q < K
    · have hsl8 : (states HH L q).length = 8 := states_length rfl L q
      have l1 := load30_run E hsl8
      have l2 := load30_run E.drew hsl8
      obtain ⟨lo, hlo⟩ : ∃ lo, 64 * q = lo := ⟨_, rfl⟩
      have hbk : ∀ W, Below w3.heap.size w3 W → ∀ j, j < 64 → W.cell? ⟨gl, ol + lo + j, none⟩ = some (.int .u8 ((blk L q).getD j 0 : Nat)) := fun W hb j hj => by
        have := (hb.cell (p := ⟨gl, ol + (lo + j), none⟩) HA.out.2.1).trans (HA.out.2.2.1 (lo + j) (by omega))
        rw [← Nat.add_assoc] at this
        refine this.trans ?_
        congr 3
        rw [blk, hlo]; simp [List.getD_eq_getElem?_getD, List.getElem?_take, hj]
      have hbl : (blk L q).length = 64 := by rw [blk, List.length_take, List.length_drop]; omega
      have hstep : states HH L (q + 1) = compress KK (states HH L q) (blk L q) := rfl
      have hsw := states_words words_HH L q
      have hbB := hLB.blk q
      have hlo2 : lo ≤ 1000 := by omega
      rw [hlo]
      generalize states HH L q = st at *
      generalize blk L q = bk at *
      have l3 := load37_at hbl (hbk wr B0)
      have l4 := load37_at hbl (hbk wr.drew B0.drew)
      have hst4 := fun w4 (B4 : Below wr.heap.size wr w4) => store30_run (st' := compress KK st bk) (E.below B4 E.lt) hsl8 (compress_length _ _ _)
      have HC := Lib.hid (fun W (h : Tabs W) => compress_any st bk hsl8 hsw hbl hbB W h)
      have hl64 : lo + 64 ≤ 64 * K := by omega
      have HB := Lib.hid (And.intro E (And.intro B0 (And.intro hstep (And.intro hlo (And.intro hqf hst4)))))
      clear E B0 hstep hlo hqf hbk hKK hLB hsw hbB hst4
      have hsl' := fun W => sliceAt_sub gl ol (64 * K) c2 lo (by omega) hcap W
      have b0 : 0 ≤ (lo : Int) := by omega
      have b1 : (lo : Int) ≤ (lo : Int) + 64 := by omega
      have b2 : (lo : Int) + 64 ≤ (c2 : Int) := by omega
      have b3 : IntKind.i64.wrap ((lo : Int) + 64) = (lo : Int) + 64 := IntWalk.i64_in _ (by omega)
      have tq : decide ((lo : Int) < 64 * (K : Int)) = true := by simp; omega
      go_wp2_with fail
      refine wp_region_sego [0, 0, 0, 0, 0, 0, 0, 0, 1, 3] [false, true] (by kernel_rfl) (by kernel_rfl) (fun _ _ d _ _ h => by cases d <;> exact h) (sego_go fun K0 hK0 => ?_)
      simp only [pickC, ↓reduceIte, Nat.reduceEqDiff, Nat.reduceAdd]
      go_wp2_with fail
      refine hK0.out _ (sego_act fun K2 hK2 => ?_)
      clear hK0 K0
      simp only [pickC, ↓reduceIte, Nat.reduceEqDiff, Nat.reduceAdd]
      go_wp2_with fail
      refine (HC.out _ (HA.out.1.step HB.out.2.1.drew).t).mono ?_
      rintro e w6 ⟨rfl, B6⟩
      have hst := HB.out.2.2.2.2.2 _ (undrew B6)
      have H6 := Lib.hid (undrew B6)
      go_wp2_with fail
      refine hK2.out _ _ B6 (sego_last fun K0 hK0 => ?_)
      clear hK2 K2 B6
      simp only [pickC, ↓reduceIte, Nat.reduceEqDiff, Nat.reduceAdd]
      go_wp2_with fail
      refine hK0.out _ (sego_do fun K2 hK2 => ?_)
      clear hK0 K0
      simp only [pickC, ↓reduceIte, Nat.reduceEqDiff, Nat.reduceAdd]
      go_wp2_with fail
      refine hK2.out _ _ (sego_end fun K0 hK0 => ?_)
      clear hK2 K2
      simp only [pickC, ↓reduceIte, Nat.reduceEqDiff, Nat.reduceAdd]
      go_wp2_with fail
      refine hK0.out _ ?_
      clear hK0 K0
      go_wp2_with fail
      go_roundg (gk - 1)
      case measure => have := HB.out.2.2.2.2.1; omega
      case rel =>
        obtain ⟨E, B0, hstep, hlo, hqf, _⟩ := HB.out
        refine ⟨q + 1, by omega, by congr 1; omega, ?_, below_setRow' (B0.trans (H6.out.mono B0.size)) g34 _⟩
        rw [hstep]; exact (E.below H6.out E.lt).setRow _
    · obtain rfl : q = K := by omega
      have hl8 : (states HH L q).length = 8 := states_length rfl L q
      have hsw := states_words words_HH L q
      generalize states HH L q = st at *
      have tq : decide (((64 * q : Nat) : Int) < ((64 * q : Nat) : Int)) = false := by simp
      have s6 := HA.out.1.step B0
      have HE := Lib.hid (And.intro E (And.intro s6 hsw)); clear E B0 hsw s6 hqf hKK hLB hq
      have hdl := digest_length st
      go_wp2_with fail
      refine (HS.out _ HE.out.2.1).mono ?_
      rintro e w6 ⟨rfl, B6⟩
      go_wp2_with (refine wpList_store_row rfl 25 (.tmp 8) (.tmp 51) rfl w6.heap.size (u8s (digest st)) rfl rfl 25 (u8s (List.replicate 32 0)) (Blk.new _ _ _) (size25 _ hdl) (by rw [u8s_size, u8s_size, hdl]; rfl) (u8s_one _) ?_)
      obtain ⟨W7, hW7⟩ : ∃ W7, W7 = (w6.alloc (.cells (u8s (List.replicate 32 0)) 25)).setRow w6.heap.size (u8s (digest st)) := ⟨_, rfl⟩
      change Code.wp _ _ _ _ ((w6.alloc (.cells (u8s (List.replicate 32 0)) 25)).setRow w6.heap.size (u8s (digest st)))
      rw [← hW7]
      have G1 : Blk W7 w6.heap.size 25 (u8s (digest st)) := by rw [hW7]; exact (Blk.new _ _ _).setRow _
      have G2 : Below wr.heap.size wr W7 := by rw [hW7]; exact below_setRow' (B6.alloc B6.size _) B6.size _
      have G3 : Blk W7 gs 30 (u32s st) := HE.out.1.below G2 HE.out.1.lt
      have G4 := HE.out.2.1.step G2
      generalize w6.heap.size = gd at *
      clear hW7 B6 G2
      have HG := Lib.hid (And.intro G1 (And.intro G3 (And.intro G4 HE.out.2.2)))
      clear G1 G3 G4 HE HF HA HS HM tq hcap
      go_loopg [9] 32 (fun f iv wr => ∃ i : Nat, i + f = 32 ∧ iv = .int .i64 i ∧ Blk wr gd 25 (u8s (digest st)) ∧ Blk wr gs 30 (u32s st) ∧ At w wr)
      case atStart => exact ⟨0, by omega, rfl, HG.out.1, HG.out.2.1, HG.out.2.2.1⟩
      case round =>
        obtain ⟨i, hif, rfl, E1, E2, E3⟩ := hrel
        by_cases hi : i < 32
        · have c1' := E1.drew.u8 (i := i) (by rw [hdl]; exact hi)
          have c2' := E2.drew.u32 (i := i / 4) (by rw [hl8]; omega)
          have hval : (digest st).getD i 0 = st.getD (i / 4) 0 / 2 ^ (24 - 8 * (i % 4)) % 256 := by
            simp [digest, List.getD_eq_getElem?_getD, List.getElem?_range hi]
          have hx := HG.out.2.2.2 (i / 4)
          generalize (digest st).getD i 0 = y at *
          generalize st.getD (i / 4) 0 = x at *
          have tne : ((y : Int) != (x : Int) / 2 ^ (24 - 8 * (i % 4)) % 256) = false := by rw [bne_eq_false_iff_eq, hval, Int.natCast_emod, Int.natCast_ediv, Int.natCast_pow]; rfl
          have HI := Lib.hid (And.intro hif (And.intro E1 (And.intro E2 (And.intro E3 hval))))
          clear hif E1 E2 E3 hval
          go_wp2_with fail
          have d1 : 0 ≤ 24 - 8 * ((i : Int) % 4) := by omega
          have d2 : 24 - 8 * ((i : Int) % 4) ≤ 24 := by omega
          refine wp_region_sego [0, 0, 0, 0, 0, 0, 0, 0, 0, 0, 0, 0, 0, 0] [] (by kernel_rfl) (by kernel_rfl) (fun _ _ d _ _ h => by cases d <;> exact h) (sego_end fun K0 hK0 => ?_)
          simp only [pickC, ↓reduceIte, Nat.reduceEqDiff, Nat.reduceAdd]
          go_wp2_with fail
          refine hK0.out _ ?_
          clear hK0 K0
          go_wp2_with fail
          go_roundg (gk - 1)
          case measure => have := HI.out.1; omega
          case rel =>
            obtain ⟨hif, E1, E2, E3, _⟩ := HI.out
            exact ⟨i + 1, by omega, by go_num, E1.drew, E2.drew, E3.drew⟩
        · obtain rfl : i = 32 := by omega
          have HI := Lib.hid E3
          clear hif E1 E2 E3
          go_wp2_with fail
          refine (known_any _ HI.out.t).mono ?_
          rintro e w20 ⟨rfl, B20⟩
          have H20 := Lib.hid (HI.out.step B20)
          clear B20
          go_wp2_with fail
          go_ret
          exact ⟨rfl, H20.out.b⟩
end Go.Proofs.YtediocpdpghbfaaDoor
