/- The law of Sum: the walk. -/
import Derived.Test.YtediocpdpghbfaaDoorEqua
set_option linter.unusedSimpArgs false
set_option linter.unusedVariables false
namespace Go.Proofs.YtediocpdpghbfaaDoor
open Go Go.RowKit

attribute [local go_sem ↓] st25 ld25
theorem load25_run {w : World} {S t : Nat} {st : List Nat} (h : Blk w S t (u8s st)) (hl : st.length = 32) :
    (loadAgg 25 (.pointer (some ⟨S, 0, none⟩))).run Tryd.prog w = .ok (.agg (u8s st)) w := by
  have := loadAgg_run (P := Tryd.prog) (w := w) (ty := 25) (g := S) (off := 0) (u8s st).toList Tryd.underlying25 rfl (by rw [Array.length_toList]; exact size25 st hl) (fun j v hv => by
    rw [Nat.zero_add, h.cell]; simpa using hv)
  simpa using this
theorem RW.drew {w : World} {A : Option Addr} {c : Nat} {b : List Nat} (h : RW w A c b) : RW w.drew A c b := ⟨h.1, fun ad hA hn => ⟨(h.2 ad hA hn).1, (h.2 ad hA hn).2.1, (h.2 ad hA hn).2.2⟩⟩
set_option maxRecDepth 100000 in
set_option maxHeartbeats 4000000 in
theorem law_sum (w : World) (hT : Tabs w) (b : List Nat) (A : Option Addr) (cap : Nat) (hcap : b.length ≤ cap) (hB : Bytes b) (hr : RW w A cap b) :
    Calls Tryd.prog 3 #[.slice A b.length cap] w fun e w' => e = .returned (.bool true) ∧ Below w.heap.size w w' := by
  obtain ⟨n, hn⟩ : ∃ n, b.length = n := ⟨_, rfl⟩
  rw [hn] at hcap ⊢
  have HA := Lib.hid (And.intro hT (And.intro hB (And.intro hr hn))); clear hT hB hr hn
  by_cases hbig : 1000 < n
  · go_enter Tryd.func3, Tryd.ntmps3
    go_wp2_with fail
    refine (known_any w HA.out.1).mono ?_
    rintro e w1 ⟨rfl, B1⟩
    have H1 := Lib.hid B1; clear B1
    go_wp2_with fail
    go_ret
    exact ⟨rfl, H1.out⟩
  · have kc := fun W (h : RW W A cap b) => convert_rw W A cap b n HA.out.2.2.2 HA.out.2.1 h
    have kc0 := kc w HA.out.2.2.1
    have HC := Lib.hid kc; clear kc
    go_enter Tryd.func3, Tryd.ntmps3
    go_wp2_with fail
    have hs := sum_any w HA.out.1 b A cap (by rw [HA.out.2.2.2]; exact hcap) HA.out.2.1 (HA.out.2.2.1.rb (Nat.le_refl _)) (by rw [HA.out.2.2.2]; omega)
    rw [HA.out.2.2.2] at hs
    refine hs.mono ?_
    rintro e w1 ⟨rfl, B1⟩
    have hsl := sha_length b
    have hT1 := HA.out.1.below B1 HA.out.1.two
    have H1 := Lib.hid (And.intro B1 hT1); clear B1 hs hT1
    have HD := Lib.hid (rsum_any · b A cap (by rw [HA.out.2.2.2]; exact hcap) HA.out.2.1 · (by rw [HA.out.2.2.2]; omega))
    rw [HA.out.2.2.2] at HD
    generalize sha b = d at *
    go_wp2_with (first
      | (refine wpList_store_row rfl 25 (.tmp 4) (.tmp 12) rfl w1.heap.size (u8s d) rfl rfl 25 (u8s (List.replicate 32 0)) (Blk.new _ _ _) (size25 _ hsl) (by rw [u8s_size, u8s_size, hsl]; rfl) (u8s_one _) ?_))
    obtain ⟨W5, hW5⟩ : ∃ W5, W5 = (w1.alloc (.cells (u8s (List.replicate 32 0)) 25)).setRow w1.heap.size (u8s d) := ⟨_, rfl⟩
    change Code.wp _ _ _ _ ((w1.alloc (.cells (u8s (List.replicate 32 0)) 25)).setRow w1.heap.size (u8s d))
    rw [← hW5]
    have F1 : Blk W5 w1.heap.size 25 (u8s d) := by rw [hW5]; exact (Blk.new _ _ _).setRow _
    have F2 : Below w.heap.size w W5 := by rw [hW5]; exact below_setRow' (H1.out.1.alloc H1.out.1.size _) H1.out.1.size _
    have F3 := HA.out.1.below F2 HA.out.1.two
    have F4 := HA.out.2.2.1.below F2
    generalize w1.heap.size = g at *
    clear hW5
    have f1 := load25_run F1 hsl
    have f1' := load25_run F1.drew hsl
    have kc5 := HC.out _ F4
    have HE := Lib.hid (And.intro F1 (And.intro F2 (And.intro F3 F4))); clear F1 F2 F3 F4
    have hbeq : ((strOf b).toList == (strOf b).toList) = true := by simp
    have hdeq : decide (d = d) = true := by simp
    have eqd := fun W => run_equalIn_dig W d d hsl hsl
    clear H1
    go_region_with (first
      | (go_at_call 22; go_loud ( refine (make_any _).mono ?_; rintro e w6 ⟨rfl, B6⟩; have f6 := load25_run (HE.out.1.drew.below B6 HE.out.1.drew.lt) hsl; have kc6 := HC.out _ (HE.out.2.2.2.drew.below B6); have H6 := Lib.hid B6; clear B6))
      | (go_at_call 21; refine (HD.out _ (HE.out.2.2.2.drew.below H6.out)).mono ?_; rintro e w7 ⟨rfl, B7⟩; have f7 := load25_run ((HE.out.1.drew.below H6.out HE.out.1.drew.lt).below B7 (by have := H6.out.size; have := HE.out.1.lt; simp at *; omega)) hsl; have kc7 := HC.out _ ((HE.out.2.2.2.drew.below H6.out).below B7); have H7 := Lib.hid B7; clear B7)
      | (go_at_call 19; refine (known_any _ ((HE.out.2.2.1.drew.below H6.out HE.out.2.2.1.two).below H7.out (Nat.le_trans HE.out.2.2.1.two H6.out.size))).mono ?_; rintro e w8 ⟨rfl, B8⟩; have H8 := Lib.hid B8; clear B8))
    go_wp2_with fail
    all_goals
      have l5 := HE.out.2.1.size
      have l6 := H6.out.size
      have l7 := H7.out.size
      refine bodyPost_ret (v := .bool true) ?_ rfl ⟨rfl, (HE.out.2.1.drew.trans (H6.out.mono l5)).trans ((H7.out.mono (Nat.le_trans l5 l6)).trans (H8.out.mono (Nat.le_trans l5 (Nat.le_trans l6 l7))))⟩
      kernel_rfl
end Go.Proofs.YtediocpdpghbfaaDoor
