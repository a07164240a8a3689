/- Merkle: sub and Consistency of the reference. -/
import Derived.Test.YtediocpdpghbfaaDoorMrpr
import Derived.Test.YtediocpdpghbfaaDoorRegv
import Derived.Deep.DeepCutAuto
set_option linter.unusedSimpArgs false
set_option linter.unusedVariables false
namespace Go.Proofs.YtediocpdpghbfaaDoor
open Go Go.RowKit

attribute [local go_sem ↓] ld24 st24 ld32 bs72_rule
attribute [local go_sem] bs72_run
set_option maxRecDepth 100000 in
set_option maxHeartbeats 4000000 in
theorem rsub_any : ∀ (n : Nat) (ps : List (List Nat)) (m0 : Nat) (b0 : Bool) (w : World) (A : Option Addr) (cap : Nat), ps.length = n → 1 ≤ m0 → m0 ≤ n → n ≤ 65536 → n ≤ cap → cap ≤ 9223372036854775807 → PL w A ps →
    Calls Tryd.prog 82 #[.agg (u32s TT), .slice A n cap, .int .i64 m0, .bool b0] w fun e w' => ∃ A' c', e = .returned (.slice A' (subL ps m0 b0).length c') ∧ OW w' w.heap.size 24 32 A' (subL ps m0 b0).length c' (hcell (subL ps m0 b0)) ∧ Below w.heap.size w w' := by
  intro n
  induction n using Nat.strongRecOn with
  | ind n ih =>
    intro ps i b0 w A cap hl h1 hi hn hcap hcm hP
    have IH := Lib.hid ih
    clear ih
    by_cases h2 : i = n
    · subst h2
      rw [subL_eq ps i b0 h1 hl.symm]
      cases b0 with
      | true =>
        have HE := Lib.hid (rw_start w)
        clear hP hl
        go_enter Tryd.func82, Tryd.ntmps82
        go_wp2_with fail
        go_ret
        exact ⟨none, 0, rfl, ow_nil _ _ _ _, HE.out.b⟩
      | false =>
        have HR := Lib.hid (fun W (s : Below w.heap.size w W) => rroot_any i ps W A cap hl (by omega) hcap hcm (hP.below s))
        have hd := mrootL_length ps
        generalize mrootL ps = d at *
        have b1 := bs72_run d hd
        obtain ⟨W, hW⟩ : ∃ W, W = w.alloc (.cells (u32s TT) 32) := ⟨_, rfl⟩
        have HE := Lib.hid (show RwSt w W w.heap.size by rw [hW]; exact rw_start w)
        have l1 := load32_run (rw_start w).t
        clear hP hl IH
        go_enter Tryd.func82, Tryd.ntmps82
        go_wp2_with fail
        rw [← hW]
        clear hW l1
        refine (HR.out _ HE.out.b).mono ?_
        rintro e w1 ⟨rfl, B1⟩
        have M := Lib.hid (HE.out.step B1)
        clear B1
        go_wp2_with fail
        go_ret
        have hle := M.out.b.size
        have ho := ow_new w1 24 32 (u8s d) 1 hle (by decide) (by rw [u8s_size, hd])
        rw [u8s_bvals] at ho
        refine ⟨_, 1, rfl, ?_, (M.out.b).alloc hle _⟩
        rw [show hcell [d] = bvals d by simp [hcell]]
        exact ho
    · have hk := splitL_bd n (by omega)
      have hpn := subL_node ps i b0 h1 (by omega)
      rw [hl] at hpn
      have HK := Lib.hid (fun W => rsplit_any n (by omega) W)
      rcases hP with hnil | ⟨g, off, rfl, hg, hc⟩
      · rw [hnil] at hl; simp at hl; omega
      have hP : PL w (some ⟨g, off, none⟩) ps := .inr ⟨g, off, rfl, hg, hc⟩
      clear hc hg
      generalize splitL n = k at *
      have s1 := fun W => sl41_h g off n cap k (by omega) W
      have s2 := fun W => sl41_l g off n cap k (by omega) hcap W
      have t1 : ((i : Int) == (n : Int)) = false := by rw [beq_eq_false_iff_ne]; omega
      by_cases hik : i ≤ k
      · rw [if_pos hik] at hpn
        have HC := Lib.hid (fun W (s : Below w.heap.size w W) => IH.out k (by omega) (ps.take k) i b0 W (some ⟨g, off, none⟩) cap (by rw [List.length_take]; omega) h1 hik (by omega) (by omega) hcm ((hP.below s).take k))
        have HR := Lib.hid (fun W (s : Below w.heap.size w W) => rroot_any (n - k) (ps.drop k) W (some ⟨g, off + k, none⟩) (cap - k) (by rw [List.length_drop]; omega) (by omega) (by omega) (by omega) ((hP.below s).drop k))
        have hd := mrootL_length (ps.drop k)
        have hpl := (subL_digs k (ps.take k) i b0 (by rw [List.length_take]; omega) h1 hik).2
        rw [hpn]
        clear hpn hP hl IH
        generalize mrootL (ps.drop k) = d at *
        generalize subL (ps.take k) i b0 = pf at *
        obtain ⟨m, hm⟩ : ∃ m, pf.length = m := ⟨_, rfl⟩
        rw [hm] at HC hpl
        have hm1 : (pf ++ [d]).length = m + 1 := by rw [List.length_append, hm]; rfl
        rw [hm1, hcell_snoc]
        clear hm hm1
        have b1 := bs72_run d hd
        obtain ⟨W, hW⟩ : ∃ W, W = w.alloc (.cells (u32s TT) 32) := ⟨_, rfl⟩
        have HE := Lib.hid (show RwSt w W w.heap.size by rw [hW]; exact rw_start w)
        go_enter Tryd.func82, Tryd.ntmps82
        go_wp2_with fail
        rw [← hW]
        clear hW
        refine (HK.out _).mono ?_
        rintro e w1 ⟨rfl, rfl⟩
        go_upto_region 7 with (fail)
        have M := Lib.hid (HE.out.step (Below.refl _ _).drew)
        have l1 := load32_run M.out.t
        clear HE
        refine wp_region_pv (.still [false, true, true, false, true, true, false, false, true, true, false, false, false, false, false] (.look [true, false, false, true, false, false, false, true, false, false, true, false, false, false, false] (.act [false, false, false, false, false, false, true, false, false, false, false, false, false, false, false] (.last [false, false, false, false, false, false, false, false, false, false, false, true, false, false, false] (.last [false, false, false, false, false, false, false, false, false, false, false, false, true, false, false] (.last [false, false, false, false, false, false, false, false, false, false, false, false, false, true, false] (.still [false, false, false, false, false, false, false, false, false, false, false, false, false, false, true] .stop))))))) (by kernel_rfl) (by kernel_rfl) (fun _ _ d _ _ h => by cases d <;> exact h) ?_
        generalize W.drew = V at *
        have hV : w.heap.size ≤ V.heap.size := M.out.b.size
        have HV := Lib.hid M.out.b
        refine sv_still fun K0 hK0 => ?_
        simp only [pickM]
        go_wp2_with fail
        refine hK0.out _ ?_
        clear hK0 K0
        refine sv_look fun K0 hK0 => ?_
        simp only [pickM]
        go_wp2_with fail
        refine hK0.out _ ?_
        clear hK0 K0
        refine sv_act fun K2 hK2 => ?_
        simp only [pickM]
        go_wp2_with fail
        refine (HC.out _ M.out.b).mono ?_
        rintro e x1 ⟨A5, c5, rfl, O5, hBelow⟩
        have M := Lib.hid (M.out.step hBelow)
        have O5 := Lib.hid O5
        have hbs := hBelow.size
        go_wp2_with fail
        have hsx1 := Lib.hid (show Sof (some V) x1 from hBelow)
        refine hK2.out _ _ hsx1.out ?_
        clear hK2 K2 hBelow
        refine sv_last fun K2 hK2 => ?_
        simp only [pickM]
        go_wp2_with fail
        refine (HR.out _ M.out.b).mono ?_
        rintro e x2 ⟨rfl, hBelow⟩
        have M := Lib.hid (M.out.step hBelow)
        have O5 := Lib.hid (O5.out.below' hBelow)
        have hbs := Nat.le_trans hbs hBelow.size
        go_wp2_with fail
        refine hK2.out _ _ ?_
        clear hK2 K2 hBelow
        refine sv_last fun K2 hK2 => ?_
        simp only [pickM]
        go_wp2_with fail
        obtain ⟨x3, hx⟩ : ∃ X, X = World.alloc x2 (.cells (u8s d) 24) := ⟨_, rfl⟩
        rw [← hx]
        have hBelow : Below x2.heap.size x2 x3 := by rw [hx]; exact (Below.refl _ _).alloc (Nat.le_refl _) _
        have E := Lib.hid (show Blk x3 x2.heap.size 24 (u8s d) by rw [hx]; exact Blk.new x2 24 _)
        have M := Lib.hid (M.out.step hBelow)
        have O5 := Lib.hid (O5.out.below' hBelow)
        have hbs := Nat.le_trans hbs hBelow.size
        clear hx
        go_wp2_with fail
        refine hK2.out _ _ ?_
        clear hK2 K2 hBelow
        refine sv_last fun K2 hK2 => ?_
        simp only [pickM]
        refine wpList_appW 72 24 (.agg (u8s (zer 32))) 32 32 Tryd.underlying72 info24 rfl (by decide) rfl (.tmp 31) (.tmp 37) rfl V.heap.size A5 m c5 (hcell pf) rfl O5.out (some ⟨x2.heap.size, 0, none⟩) 1 1 (bvals d) rfl (by rw [bvals_length, hd]) (by intro e; cases e) (by rw [← u8s_bvals]; exact lv_blk E.out) (bvals_one d) (by omega) (by omega) hbs ?_
        intro A9 c9 x4 O9 B9
        have H9 := Lib.hid (And.intro O9 B9)
        clear O9 B9
        go_wp2_with fail
        refine hK2.out _ _ ?_
        clear hK2 K2
        refine sv_still fun K0 hK0 => ?_
        simp only [pickM]
        go_wp2_with fail
        refine hK0.out _ ?_
        clear hK0 K0
        change Exit.then _ _ _ _ _
        go_wp2_with fail
        go_ret
        exact ⟨A9, c9, rfl, H9.out.1.baseLe hV, (M.out.b.trans (H9.out.2.mono hV))⟩
      · have hge : k < i := by omega
        rw [if_neg hik] at hpn
        have hc := fun W (s : Below w.heap.size w W) => IH.out (n - k) (by omega) (ps.drop k) (i - k) false W (some ⟨g, off + k, none⟩) (cap - k) (by rw [List.length_drop]; omega) (by omega) (by omega) (by omega) (by omega) (by omega) ((hP.below s).drop k)
        rw [show ((i - k : Nat) : Int) = (i : Int) - (k : Nat) by omega] at hc
        have HC := Lib.hid hc
        clear hc
        have HR := Lib.hid (fun W (s : Below w.heap.size w W) => rroot_any k (ps.take k) W (some ⟨g, off, none⟩) cap (by rw [List.length_take]; omega) (by omega) (by omega) hcm ((hP.below s).take k))
        have hd := mrootL_length (ps.take k)
        have hpl := (subL_digs (n - k) (ps.drop k) (i - k) false (by rw [List.length_drop]; omega) (by omega) (by omega)).2
        rw [hpn]
        clear hpn hP hl IH
        generalize mrootL (ps.take k) = d at *
        generalize subL (ps.drop k) (i - k) false = pf at *
        obtain ⟨m, hm⟩ : ∃ m, pf.length = m := ⟨_, rfl⟩
        rw [hm] at HC hpl
        have hm1 : (pf ++ [d]).length = m + 1 := by rw [List.length_append, hm]; rfl
        rw [hm1, hcell_snoc]
        clear hm hm1
        have b1 := bs72_run d hd
        obtain ⟨W, hW⟩ : ∃ W, W = w.alloc (.cells (u32s TT) 32) := ⟨_, rfl⟩
        have HE := Lib.hid (show RwSt w W w.heap.size by rw [hW]; exact rw_start w)
        go_enter Tryd.func82, Tryd.ntmps82
        go_wp2_with fail
        rw [← hW]
        clear hW
        refine (HK.out _).mono ?_
        rintro e w1 ⟨rfl, rfl⟩
        go_upto_region 8 with (fail)
        have M := Lib.hid (HE.out.step (Below.refl _ _).drew)
        have l1 := load32_run M.out.t
        clear HE
        refine wp_region_pv (.still [false, true, true, false, true, true, false, false, false, true, true, false, false, false, false, false] (.look [true, false, false, true, false, false, true, false, true, false, false, true, false, false, false, false] (.act [false, false, false, false, false, false, false, true, false, false, false, false, false, false, false, false] (.last [false, false, false, false, false, false, false, false, false, false, false, false, true, false, false, false] (.last [false, false, false, false, false, false, false, false, false, false, false, false, false, true, false, false] (.last [false, false, false, false, false, false, false, false, false, false, false, false, false, false, true, false] (.still [false, false, false, false, false, false, false, false, false, false, false, false, false, false, false, true] .stop))))))) (by kernel_rfl) (by kernel_rfl) (fun _ _ d _ _ h => by cases d <;> exact h) ?_
        generalize W.drew = V at *
        have hV : w.heap.size ≤ V.heap.size := M.out.b.size
        have HV := Lib.hid M.out.b
        refine sv_still fun K0 hK0 => ?_
        simp only [pickM]
        go_wp2_with fail
        refine hK0.out _ ?_
        clear hK0 K0
        refine sv_look fun K0 hK0 => ?_
        simp only [pickM]
        go_wp2_with fail
        refine hK0.out _ ?_
        clear hK0 K0
        refine sv_act fun K2 hK2 => ?_
        simp only [pickM]
        go_wp2_with fail
        refine (HC.out _ M.out.b).mono ?_
        rintro e x1 ⟨A5, c5, rfl, O5, hBelow⟩
        have M := Lib.hid (M.out.step hBelow)
        have O5 := Lib.hid O5
        have hbs := hBelow.size
        go_wp2_with fail
        have hsx1 := Lib.hid (show Sof (some V) x1 from hBelow)
        refine hK2.out _ _ hsx1.out ?_
        clear hK2 K2 hBelow
        refine sv_last fun K2 hK2 => ?_
        simp only [pickM]
        go_wp2_with fail
        refine (HR.out _ M.out.b).mono ?_
        rintro e x2 ⟨rfl, hBelow⟩
        have M := Lib.hid (M.out.step hBelow)
        have O5 := Lib.hid (O5.out.below' hBelow)
        have hbs := Nat.le_trans hbs hBelow.size
        go_wp2_with fail
        refine hK2.out _ _ ?_
        clear hK2 K2 hBelow
        refine sv_last fun K2 hK2 => ?_
        simp only [pickM]
        go_wp2_with fail
        obtain ⟨x3, hx⟩ : ∃ X, X = World.alloc x2 (.cells (u8s d) 24) := ⟨_, rfl⟩
        rw [← hx]
        have hBelow : Below x2.heap.size x2 x3 := by rw [hx]; exact (Below.refl _ _).alloc (Nat.le_refl _) _
        have E := Lib.hid (show Blk x3 x2.heap.size 24 (u8s d) by rw [hx]; exact Blk.new x2 24 _)
        have M := Lib.hid (M.out.step hBelow)
        have O5 := Lib.hid (O5.out.below' hBelow)
        have hbs := Nat.le_trans hbs hBelow.size
        clear hx
        go_wp2_with fail
        refine hK2.out _ _ ?_
        clear hK2 K2 hBelow
        refine sv_last fun K2 hK2 => ?_
        simp only [pickM]
        refine wpList_appW 72 24 (.agg (u8s (zer 32))) 32 32 Tryd.underlying72 info24 rfl (by decide) rfl (.tmp 46) (.tmp 52) rfl V.heap.size A5 m c5 (hcell pf) rfl O5.out (some ⟨x2.heap.size, 0, none⟩) 1 1 (bvals d) rfl (by rw [bvals_length, hd]) (by intro e; cases e) (by rw [← u8s_bvals]; exact lv_blk E.out) (bvals_one d) (by omega) (by omega) hbs ?_
        intro A9 c9 x4 O9 B9
        have H9 := Lib.hid (And.intro O9 B9)
        clear O9 B9
        go_wp2_with fail
        refine hK2.out _ _ ?_
        clear hK2 K2
        refine sv_still fun K0 hK0 => ?_
        simp only [pickM]
        go_wp2_with fail
        refine hK0.out _ ?_
        clear hK0 K0
        change Exit.then _ _ _ _ _
        go_wp2_with fail
        go_ret
        exact ⟨A9, c9, rfl, H9.out.1.baseLe hV, (M.out.b.trans (H9.out.2.mono hV))⟩
set_option maxRecDepth 100000 in
set_option maxHeartbeats 2000000 in
theorem rcons_any (n : Nat) (ps : List (List Nat)) (i : Nat) (w : World) (A : Option Addr) (cap : Nat) (hl : ps.length = n) (hi : i ≤ n) (hn : n ≤ 65536) (hcap : n ≤ cap) (hcm : cap ≤ 9223372036854775807) (hP : PL w A ps) :
    Calls Tryd.prog 57 #[.agg (u32s TT), .slice A n cap, .int .i64 i] w fun e w' => ∃ A' c', e = .returned (.slice A' (consL ps i).length c') ∧ OW w' w.heap.size 24 32 A' (consL ps i).length c' (hcell (consL ps i)) ∧ Below w.heap.size w w' := by
  by_cases h0 : i = 0 ∨ i = n
  · have hq : consL ps i = [] := by unfold consL; rw [if_pos (by rw [hl]; exact h0)]
    rw [hq]
    have HE := Lib.hid (rw_start w)
    have ways : i = 0 ∨ (i ≠ 0 ∧ i = n) := by omega
    clear hq hP hl h0
    rcases ways with rfl | ⟨h1, rfl⟩
    · go_enter Tryd.func57, Tryd.ntmps57
      go_wp2_with fail
      go_ret
      exact ⟨none, 0, rfl, ow_nil _ _ _ _, HE.out.b⟩
    · have t0 : ((i : Int) == 0) = false := by rw [beq_eq_false_iff_ne]; omega
      clear h1
      go_enter Tryd.func57, Tryd.ntmps57
      go_wp2_with fail
      go_ret
      exact ⟨none, 0, rfl, ow_nil _ _ _ _, HE.out.b⟩
  · have hq : consL ps i = subL ps i true := by unfold consL; rw [if_neg (by rw [hl]; exact h0)]
    rw [hq]
    have HC := Lib.hid (fun W (s : Below w.heap.size w W) => rsub_any n ps i true W A cap hl (by omega) hi hn hcap hcm (hP.below s))
    generalize subL ps i true = q at *
    obtain ⟨k, hk⟩ : ∃ k, q.length = k := ⟨_, rfl⟩
    rw [hk] at HC ⊢
    have HE := Lib.hid (rw_start w)
    have l1 := load32_run (rw_start w).t
    have t0 : ((i : Int) == 0) = false := by rw [beq_eq_false_iff_ne]; omega
    have t1 : ((i : Int) == (n : Int)) = false := by rw [beq_eq_false_iff_ne]; omega
    clear hq hP hl hk h0
    go_enter Tryd.func57, Tryd.ntmps57
    go_wp2_with fail
    refine (HC.out _ HE.out.b).mono ?_
    rintro e w1 ⟨A1, c1, rfl, O1, B1⟩
    have H1 := Lib.hid (And.intro O1 (HE.out.b.trans (B1.mono HE.out.b.size)))
    have hle := HE.out.b.size
    clear O1 B1 l1
    go_wp2_with fail
    go_ret
    exact ⟨A1, c1, rfl, H1.out.1.baseLe hle, H1.out.2⟩
end Go.Proofs.YtediocpdpghbfaaDoor
