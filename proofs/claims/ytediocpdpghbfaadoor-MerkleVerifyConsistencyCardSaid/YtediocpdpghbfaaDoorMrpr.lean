/- Merkle: Prove of the reference. -/
import Derived.Test.YtediocpdpghbfaaDoorGenP
import Derived.Test.YtediocpdpghbfaaDoorRegv
import Derived.Deep.DeepCutAuto
set_option linter.unusedSimpArgs false
set_option linter.unusedVariables false
namespace Go.Proofs.YtediocpdpghbfaaDoor
open Go Go.RowKit

structure RwSt (w W : World) (g : Nat) : Prop where
  t : Blk W g 32 (u32s TT)
  b : Below g w W
theorem RwSt.step {w W W' : World} {g : Nat} (k : RwSt w W g) (b : Below W.heap.size W W') : RwSt w W' g := ⟨k.t.below b k.t.lt, k.b.trans (b.mono (Nat.le_of_lt k.t.lt))⟩
theorem rw_start (w : World) : RwSt w (w.alloc (.cells (u32s TT) 32)) w.heap.size := ⟨Blk.new _ _ _, (Below.refl _ _).alloc (Nat.le_refl _) _⟩
attribute [local go_sem ↓] ld24 st24 ld32 bs72_rule
attribute [local go_sem] bs72_run
set_option maxRecDepth 100000 in
set_option maxHeartbeats 4000000 in
theorem rprove_any : ∀ (n : Nat) (ps : List (List Nat)) (i : Nat) (w : World) (A : Option Addr) (cap : Nat), ps.length = n → 1 ≤ n → n ≤ 65536 → i < n → n ≤ cap → cap ≤ 9223372036854775807 → PL w A ps →
    Calls Tryd.prog 52 #[.agg (u32s TT), .slice A n cap, .int .i64 i] w fun e w' => ∃ A' c', e = .returned (.slice A' (proveL ps i).length c') ∧ OW w' w.heap.size 24 32 A' (proveL ps i).length c' (hcell (proveL ps i)) ∧ Below w.heap.size w w' := by
  intro n
  induction n using Nat.strongRecOn with
  | ind n ih =>
    intro ps i w A cap hl h1 hn hi hcap hcm hP
    have IH := Lib.hid ih
    clear ih
    rcases Nat.lt_or_ge n 2 with h2 | h2
    · obtain rfl : n = 1 := by omega
      rw [proveL_one ps i (by omega)]
      have HE := Lib.hid (rw_start w)
      clear hP hl
      go_enter Tryd.func52, Tryd.ntmps52
      go_wp2_with fail
      go_ret
      exact ⟨none, 0, rfl, ow_nil _ _ _ _, HE.out.b⟩
    · have hk := splitL_bd n h2
      have hpn := proveL_node ps i (by omega)
      rw [hl] at hpn
      have HK := Lib.hid (fun W => rsplit_any n (by omega) W)
      rcases hP with hnil | ⟨g, off, rfl, hg, hc⟩
      · rw [hnil] at hl; simp at hl; omega
      have hP : PL w (some ⟨g, off, none⟩) ps := .inr ⟨g, off, rfl, hg, hc⟩
      clear hc hg
      generalize splitL n = k at *
      have s1 := fun W => sl41_h g off n cap k (by omega) W
      have s2 := fun W => sl41_l g off n cap k (by omega) hcap W
      have t1 : ((n : Int) == 1) = false := by rw [beq_eq_false_iff_ne]; omega
      by_cases hik : i < k
      · rw [if_pos hik] at hpn
        have HC := Lib.hid (fun W (s : Below w.heap.size w W) => IH.out k (by omega) (ps.take k) i W (some ⟨g, off, none⟩) cap (by rw [List.length_take]; omega) (by omega) (by omega) hik (by omega) hcm ((hP.below s).take k))
        have HR := Lib.hid (fun W (s : Below w.heap.size w W) => rroot_any (n - k) (ps.drop k) W (some ⟨g, off + k, none⟩) (cap - k) (by rw [List.length_drop]; omega) (by omega) (by omega) (by omega) ((hP.below s).drop k))
        have hd := mrootL_length (ps.drop k)
        have hpl := (proveL_digs k (ps.take k) i (by rw [List.length_take]; omega)).2
        rw [hpn]
        clear hpn hP hl IH
        generalize mrootL (ps.drop k) = d at *
        generalize proveL (ps.take k) i = pf at *
        obtain ⟨m, hm⟩ : ∃ m, pf.length = m := ⟨_, rfl⟩
        rw [hm] at HC hpl
        have hm1 : (pf ++ [d]).length = m + 1 := by rw [List.length_append, hm]; rfl
        rw [hm1, hcell_snoc]
        clear hm hm1
        have b1 := bs72_run d hd
        obtain ⟨W, hW⟩ : ∃ W, W = w.alloc (.cells (u32s TT) 32) := ⟨_, rfl⟩
        have HE := Lib.hid (show RwSt w W w.heap.size by rw [hW]; exact rw_start w)
        go_enter Tryd.func52, Tryd.ntmps52
        go_wp2_with fail
        rw [← hW]
        clear hW
        refine (HK.out _).mono ?_
        rintro e w1 ⟨rfl, rfl⟩
        go_upto_region 5 with (fail)
        have M := Lib.hid (HE.out.step (Below.refl _ _).drew)
        have l1 := load32_run M.out.t
        clear HE
        refine wp_region_pv (.still [false, true, true, false, true, false, false, true, true, false, false, false, false, false] (.look [true, false, false, true, false, false, true, false, false, true, false, false, false, false] (.act [false, false, false, false, false, true, false, false, false, false, false, false, false, false] (.last [false, false, false, false, false, false, false, false, false, false, true, false, false, false] (.last [false, false, false, false, false, false, false, false, false, false, false, true, false, false] (.last [false, false, false, false, false, false, false, false, false, false, false, false, true, false] (.still [false, false, false, false, false, false, false, false, false, false, false, false, false, true] .stop))))))) (by kernel_rfl) (by kernel_rfl) (fun _ _ d _ _ h => by cases d <;> exact h) ?_
        generalize W.drew = V at *
        have hV : w.heap.size ≤ V.heap.size := M.out.b.size
        have HV := Lib.hid M.out.b
        refine sv_still fun K0 hK0 => ?_
        simp only [pickM]
        go_wp2_with fail
        refine hK0.out _ ?_
        clear hK0 K0
        refine sv_look fun K0 hK0 => ?_
        simp only [pickM]
        go_wp2_with fail
        refine hK0.out _ ?_
        clear hK0 K0
        refine sv_act fun K2 hK2 => ?_
        simp only [pickM]
        go_wp2_with fail
        refine (HC.out _ M.out.b).mono ?_
        rintro e x1 ⟨A5, c5, rfl, O5, hBelow⟩
        have M := Lib.hid (M.out.step hBelow)
        have O5 := Lib.hid O5
        have hbs := hBelow.size
        go_wp2_with fail
        have hsx1 := Lib.hid (show Sof (some V) x1 from hBelow)
        refine hK2.out _ _ hsx1.out ?_
        clear hK2 K2 hBelow
        refine sv_last fun K2 hK2 => ?_
        simp only [pickM]
        go_wp2_with fail
        refine (HR.out _ M.out.b).mono ?_
        rintro e x2 ⟨rfl, hBelow⟩
        have M := Lib.hid (M.out.step hBelow)
        have O5 := Lib.hid (O5.out.below' hBelow)
        have hbs := Nat.le_trans hbs hBelow.size
        go_wp2_with fail
        refine hK2.out _ _ ?_
        clear hK2 K2 hBelow
        refine sv_last fun K2 hK2 => ?_
        simp only [pickM]
        go_wp2_with fail
        obtain ⟨x3, hx⟩ : ∃ X, X = World.alloc x2 (.cells (u8s d) 24) := ⟨_, rfl⟩
        rw [← hx]
        have hBelow : Below x2.heap.size x2 x3 := by rw [hx]; exact (Below.refl _ _).alloc (Nat.le_refl _) _
        have E := Lib.hid (show Blk x3 x2.heap.size 24 (u8s d) by rw [hx]; exact Blk.new x2 24 _)
        have M := Lib.hid (M.out.step hBelow)
        have O5 := Lib.hid (O5.out.below' hBelow)
        have hbs := Nat.le_trans hbs hBelow.size
        clear hx
        go_wp2_with fail
        refine hK2.out _ _ ?_
        clear hK2 K2 hBelow
        refine sv_last fun K2 hK2 => ?_
        simp only [pickM]
        refine wpList_appW 72 24 (.agg (u8s (zer 32))) 32 32 Tryd.underlying72 info24 rfl (by decide) rfl (.tmp 22) (.tmp 28) rfl V.heap.size A5 m c5 (hcell pf) rfl O5.out (some ⟨x2.heap.size, 0, none⟩) 1 1 (bvals d) rfl (by rw [bvals_length, hd]) (by intro e; cases e) (by rw [← u8s_bvals]; exact lv_blk E.out) (bvals_one d) (by omega) (by omega) hbs ?_
        intro A9 c9 x4 O9 B9
        have H9 := Lib.hid (And.intro O9 B9)
        clear O9 B9
        go_wp2_with fail
        refine hK2.out _ _ ?_
        clear hK2 K2
        refine sv_still fun K0 hK0 => ?_
        simp only [pickM]
        go_wp2_with fail
        refine hK0.out _ ?_
        clear hK0 K0
        change Exit.then _ _ _ _ _
        go_wp2_with fail
        go_ret
        exact ⟨A9, c9, rfl, H9.out.1.baseLe hV, (M.out.b.trans (H9.out.2.mono hV))⟩
      · have hge : k ≤ i := by omega
        rw [if_neg hik] at hpn
        have hc := fun W (s : Below w.heap.size w W) => IH.out (n - k) (by omega) (ps.drop k) (i - k) W (some ⟨g, off + k, none⟩) (cap - k) (by rw [List.length_drop]; omega) (by omega) (by omega) (by omega) (by omega) (by omega) ((hP.below s).drop k)
        rw [show ((i - k : Nat) : Int) = (i : Int) - (k : Nat) by omega] at hc
        have HC := Lib.hid hc
        clear hc
        have HR := Lib.hid (fun W (s : Below w.heap.size w W) => rroot_any k (ps.take k) W (some ⟨g, off, none⟩) cap (by rw [List.length_take]; omega) (by omega) (by omega) hcm ((hP.below s).take k))
        have hd := mrootL_length (ps.take k)
        have hpl := (proveL_digs (n - k) (ps.drop k) (i - k) (by rw [List.length_drop]; omega)).2
        rw [hpn]
        clear hpn hP hl IH
        generalize mrootL (ps.take k) = d at *
        generalize proveL (ps.drop k) (i - k) = pf at *
        obtain ⟨m, hm⟩ : ∃ m, pf.length = m := ⟨_, rfl⟩
        rw [hm] at HC hpl
        have hm1 : (pf ++ [d]).length = m + 1 := by rw [List.length_append, hm]; rfl
        rw [hm1, hcell_snoc]
        clear hm hm1
        have b1 := bs72_run d hd
        obtain ⟨W, hW⟩ : ∃ W, W = w.alloc (.cells (u32s TT) 32) := ⟨_, rfl⟩
        have HE := Lib.hid (show RwSt w W w.heap.size by rw [hW]; exact rw_start w)
        go_enter Tryd.func52, Tryd.ntmps52
        go_wp2_with fail
        rw [← hW]
        clear hW
        refine (HK.out _).mono ?_
        rintro e w1 ⟨rfl, rfl⟩
        go_upto_region 6 with (fail)
        have M := Lib.hid (HE.out.step (Below.refl _ _).drew)
        have l1 := load32_run M.out.t
        clear HE
        refine wp_region_pv (.still [false, true, true, false, true, true, false, false, false, true, true, false, false, false, false, false] (.look [true, false, false, true, false, false, true, false, true, false, false, true, false, false, false, false] (.act [false, false, false, false, false, false, false, true, false, false, false, false, false, false, false, false] (.last [false, false, false, false, false, false, false, false, false, false, false, false, true, false, false, false] (.last [false, false, false, false, false, false, false, false, false, false, false, false, false, true, false, false] (.last [false, false, false, false, false, false, false, false, false, false, false, false, false, false, true, false] (.still [false, false, false, false, false, false, false, false, false, false, false, false, false, false, false, true] .stop))))))) (by kernel_rfl) (by kernel_rfl) (fun _ _ d _ _ h => by cases d <;> exact h) ?_
        generalize W.drew = V at *
        have hV : w.heap.size ≤ V.heap.size := M.out.b.size
        have HV := Lib.hid M.out.b
        refine sv_still fun K0 hK0 => ?_
        simp only [pickM]
        go_wp2_with fail
        refine hK0.out _ ?_
        clear hK0 K0
        refine sv_look fun K0 hK0 => ?_
        simp only [pickM]
        go_wp2_with fail
        refine hK0.out _ ?_
        clear hK0 K0
        refine sv_act fun K2 hK2 => ?_
        simp only [pickM]
        go_wp2_with fail
        refine (HC.out _ M.out.b).mono ?_
        rintro e x1 ⟨A5, c5, rfl, O5, hBelow⟩
        have M := Lib.hid (M.out.step hBelow)
        have O5 := Lib.hid O5
        have hbs := hBelow.size
        go_wp2_with fail
        have hsx1 := Lib.hid (show Sof (some V) x1 from hBelow)
        refine hK2.out _ _ hsx1.out ?_
        clear hK2 K2 hBelow
        refine sv_last fun K2 hK2 => ?_
        simp only [pickM]
        go_wp2_with fail
        refine (HR.out _ M.out.b).mono ?_
        rintro e x2 ⟨rfl, hBelow⟩
        have M := Lib.hid (M.out.step hBelow)
        have O5 := Lib.hid (O5.out.below' hBelow)
        have hbs := Nat.le_trans hbs hBelow.size
        go_wp2_with fail
        refine hK2.out _ _ ?_
        clear hK2 K2 hBelow
        refine sv_last fun K2 hK2 => ?_
        simp only [pickM]
        go_wp2_with fail
        obtain ⟨x3, hx⟩ : ∃ X, X = World.alloc x2 (.cells (u8s d) 24) := ⟨_, rfl⟩
        rw [← hx]
        have hBelow : Below x2.heap.size x2 x3 := by rw [hx]; exact (Below.refl _ _).alloc (Nat.le_refl _) _
        have E := Lib.hid (show Blk x3 x2.heap.size 24 (u8s d) by rw [hx]; exact Blk.new x2 24 _)
        have M := Lib.hid (M.out.step hBelow)
        have O5 := Lib.hid (O5.out.below' hBelow)
        have hbs := Nat.le_trans hbs hBelow.size
        clear hx
        go_wp2_with fail
        refine hK2.out _ _ ?_
        clear hK2 K2 hBelow
        refine sv_last fun K2 hK2 => ?_
        simp only [pickM]
        refine wpList_appW 72 24 (.agg (u8s (zer 32))) 32 32 Tryd.underlying72 info24 rfl (by decide) rfl (.tmp 37) (.tmp 43) rfl V.heap.size A5 m c5 (hcell pf) rfl O5.out (some ⟨x2.heap.size, 0, none⟩) 1 1 (bvals d) rfl (by rw [bvals_length, hd]) (by intro e; cases e) (by rw [← u8s_bvals]; exact lv_blk E.out) (bvals_one d) (by omega) (by omega) hbs ?_
        intro A9 c9 x4 O9 B9
        have H9 := Lib.hid (And.intro O9 B9)
        clear O9 B9
        go_wp2_with fail
        refine hK2.out _ _ ?_
        clear hK2 K2
        refine sv_still fun K0 hK0 => ?_
        simp only [pickM]
        go_wp2_with fail
        refine hK0.out _ ?_
        clear hK0 K0
        change Exit.then _ _ _ _ _
        go_wp2_with fail
        go_ret
        exact ⟨A9, c9, rfl, H9.out.1.baseLe hV, (M.out.b.trans (H9.out.2.mono hV))⟩
end Go.Proofs.YtediocpdpghbfaaDoor
