/- Merkle: VerifyConsistency, the reference's. -/
import Derived.Test.YtediocpdpghbfaaDoorMbth
import Derived.Test.YtediocpdpghbfaaDoorMvcn
import Derived.Test.YtediocpdpghbfaaDoorShaQ
set_option linter.unusedSimpArgs false
set_option linter.unusedVariables false
namespace Go.Proofs.YtediocpdpghbfaaDoor
open Go Go.RowKit

structure RvSt (w W : World) (old new : List Nat) : Prop where
  t : Blk W w.heap.size 32 (u32s TT)
  o : Blk W (w.heap.size + 1) 24 (u8s old)
  n : Blk W (w.heap.size + 1 + 1) 24 (u8s new)
  b : Below w.heap.size w W
theorem RvSt.step {w W W' : World} {old new : List Nat} (h : RvSt w W old new) (b : Below W.heap.size W W') : RvSt w W' old new := ⟨h.t.below b h.t.lt, h.o.below b h.o.lt, h.n.below b h.n.lt, h.b.trans (b.mono (Nat.le_of_lt h.t.lt))⟩
theorem rv_start (w : World) (old new : List Nat) : RvSt w (((w.alloc (.cells (u32s TT) 32)).alloc (.cells (u8s old) 24)).alloc (.cells (u8s new) 24)) old new :=
  ⟨((Blk.new _ _ _).alloc _).alloc _, (Blk.new1 _ _ _ _).alloc _, Blk.new2 _ _ _ _ _, (((Below.refl _ _).alloc (Nat.le_refl _) _).alloc (by simp) _).alloc (by simp only [size1]; omega) _⟩
attribute [local go_sem ↓] ld24 st24 ld32 alc24_rule
attribute [local go_sem] alc24_run
set_option maxRecDepth 100000 in
theorem rvcons_bad (w : World) (old new : List Nat) (m n : Int) (h : n < 0 ∨ 65536 < n ∨ m < 0 ∨ n < m) (P : Value) :
    Calls Tryd.prog 59 #[.agg (u32s TT), .agg (u8s old), .agg (u8s new), .int .i64 m, .int .i64 n, P] w fun e w' => e = .returned (.int .i64 2) ∧ Below w.heap.size w w' := by
  have HE := Lib.hid (rv_start w old new)
  have h4 : n < 0 ∨ (¬ n < 0 ∧ 65536 < n) ∨ (¬ n < 0 ∧ ¬ 65536 < n ∧ m < 0) ∨ (¬ n < 0 ∧ ¬ 65536 < n ∧ ¬ m < 0 ∧ n < m) := by omega
  clear h
  rcases h4 with h1 | ⟨h1, h2⟩ | ⟨h1, h2, h3⟩ | ⟨h1, h2, h3, h4⟩
  all_goals
    go_enter Tryd.func59, Tryd.ntmps59
    go_wp2_with fail
    go_ret
    exact ⟨rfl, HE.out.b⟩
set_option maxRecDepth 100000 in
set_option maxHeartbeats 4000000 in
theorem rvcons_any (w : World) (old new : List Nat) (ho : old.length = 32) (hnw : new.length = 32) (hoB : Bytes old) (m n : Nat) (hn : n ≤ 65536) (hm : m ≤ n) (ps : List (List Nat)) (P : Option Addr) (k pc : Nat) (hk : ps.length = k) (hk2 : k ≤ 100000) (hkp : k ≤ pc) (hpc : pc ≤ 9223372036854775807) (hd : Digs ps) (hP : LV w P (hcell ps)) :
    Calls Tryd.prog 59 #[.agg (u32s TT), .agg (u8s old), .agg (u8s new), .int .i64 m, .int .i64 n, .slice P k pc] w fun e w' => e = .returned (.int .i64 (verConL old new m n ps)) ∧ Below w.heap.size w w' := by
  have HE := Lib.hid (rv_start w old new)
  have t1 : ¬ (n : Int) < 0 := by omega
  have t2 : ¬ (65536 : Int) < n := by omega
  have t3 : ¬ (m : Int) < 0 := by omega
  have t4 : ¬ (n : Int) < m := by omega
  by_cases hmn : m = 0 ∨ m = n
  · by_cases hk0 : k = 0
    · rw [vc_edge old new m n ps hmn (by omega)]
      subst hk0
      have hsl : (sha []).length = 32 := sha_length _
      have q1 := fun W => run_equalIn_dig24 W old (sha []) ho hsl
      have q2 := fun W => run_equalIn_dig24 W old new ho hnw
      have HR := Lib.hid (fun W => rsum_any W [] none 0 (by simp) Bytes.nil (rw_nil W) (by simp))
      simp only [List.length_nil] at HR
      clear hP hd hk
      generalize sha [] = z at *
      obtain ⟨V0, hV0⟩ : ∃ V0 : Int, (if (m = 0 ∧ old ≠ z) ∨ (m = n ∧ old ≠ new) then 27 else 0) = V0 := ⟨_, rfl⟩
      rw [hV0]
      have HV := Lib.hid hV0
      clear hV0
      have ways : (m = 0 ∧ n = 0) ∨ (m = 0 ∧ n ≠ 0) ∨ (m ≠ 0 ∧ m = n) := by omega
      clear hmn
      by_cases e1 : old = z <;> by_cases e2 : old = new
      all_goals
        first | rw [decide_eq_true e1] at q1 | rw [decide_eq_false e1] at q1
        first | rw [decide_eq_true e2] at q2 | rw [decide_eq_false e2] at q2
      all_goals
        have HQ := Lib.hid (And.intro e1 e2)
        clear e1 e2
        rcases ways with ⟨rfl, rfl⟩ | ⟨rfl, w2⟩ | ⟨w1, rfl⟩
        · have hv := HV.out
          first | have h1 := eq_true (show old = z from HQ.out.1) | have h1 := eq_false (show ¬ old = z from HQ.out.1)
          first | have h2 := eq_true (show old = new from HQ.out.2) | have h2 := eq_false (show ¬ old = new from HQ.out.2)
          simp [h1, h2] at hv
          clear h1 h2
          subst hv
          clear HV
          go_enter Tryd.func59, Tryd.ntmps59
          go_wp2_with fail
          generalize ((w.alloc (.cells (u32s TT) 32)).alloc (.cells (u8s old) 24)).alloc (.cells (u8s new) 24) = W at *
          have M := Lib.hid (HE.out.step (Below.refl _ _).drew)
          have l1 := load24M M.out.o ho
          have l2 := load24M M.out.n hnw
          have l3 := load32_run M.out.t
          clear HE
          refine wp_region_pv (.still [true, false, false, false, false, false, false, false, false, false, false, false, false, false, false, false, false, false] (.look [false, true, true, true, true, false, false, false, false, false, false, false, false, false, false, false, false, false] (.act [false, false, false, false, false, true, false, false, false, false, false, false, false, false, false, false, false, false] (.look [false, false, false, false, false, false, true, true, true, true, true, true, true, true, true, true, true, true] .stop)))) (by kernel_rfl) (by kernel_rfl) (fun _ _ d _ _ h => by cases d <;> exact h) ?_
          generalize W.drew = V at *
          refine sv_still fun K0 hK0 => ?_
          simp only [pickM]
          go_wp2_with fail
          refine hK0.out _ ?_
          clear hK0 K0
          refine sv_look fun K0 hK0 => ?_
          simp only [pickM]
          go_wp2_with fail
          refine hK0.out _ ?_
          clear hK0 K0
          refine sv_act fun K2 hK2 => ?_
          simp only [pickM]
          go_wp2_with fail
          refine (HR.out _).mono ?_
          rintro e x1 ⟨rfl, hBelow⟩
          have M := Lib.hid (M.out.step hBelow)
          have l1 := load24M M.out.o ho
          have l2 := load24M M.out.n hnw
          go_wp2_with fail
          have hsx1 := Lib.hid (show Sof (some V) x1 from hBelow)
          refine hK2.out _ _ hsx1.out ?_
          clear hK2 K2 hBelow
          refine sv_look fun K0 hK0 => ?_
          simp only [pickM]
          go_wp2_with fail
          refine hK0.out _ ?_
          clear hK0 K0
          change Exit.then _ _ _ _ _
          go_wp2_with fail
          go_ret
          exact ⟨rfl, M.out.b⟩
        · have t5 : ((0 : Int) == (n : Int)) = false := by rw [beq_eq_false_iff_ne]; omega
          have hv := HV.out
          first | have h1 := eq_true (show old = z from HQ.out.1) | have h1 := eq_false (show ¬ old = z from HQ.out.1)
          first | have h2 := eq_true (show old = new from HQ.out.2) | have h2 := eq_false (show ¬ old = new from HQ.out.2)
          simp [h1, h2, w2, Ne.symm w2] at hv
          clear h1 h2
          subst hv
          clear w2 HV
          go_enter Tryd.func59, Tryd.ntmps59
          go_wp2_with fail
          generalize ((w.alloc (.cells (u32s TT) 32)).alloc (.cells (u8s old) 24)).alloc (.cells (u8s new) 24) = W at *
          have M := Lib.hid (HE.out.step (Below.refl _ _).drew)
          have l1 := load24M M.out.o ho
          have l2 := load24M M.out.n hnw
          have l3 := load32_run M.out.t
          clear HE
          refine wp_region_pv (.still [true, false, false, false, false, false, false, false, false, false, false, false, false, false, false, false, false, false] (.look [false, true, true, true, true, false, false, false, false, false, false, false, false, false, false, false, false, false] (.act [false, false, false, false, false, true, false, false, false, false, false, false, false, false, false, false, false, false] (.look [false, false, false, false, false, false, true, true, true, true, true, true, true, true, true, true, true, true] .stop)))) (by kernel_rfl) (by kernel_rfl) (fun _ _ d _ _ h => by cases d <;> exact h) ?_
          generalize W.drew = V at *
          refine sv_still fun K0 hK0 => ?_
          simp only [pickM]
          go_wp2_with fail
          refine hK0.out _ ?_
          clear hK0 K0
          refine sv_look fun K0 hK0 => ?_
          simp only [pickM]
          go_wp2_with fail
          refine hK0.out _ ?_
          clear hK0 K0
          refine sv_act fun K2 hK2 => ?_
          simp only [pickM]
          go_wp2_with fail
          refine (HR.out _).mono ?_
          rintro e x1 ⟨rfl, hBelow⟩
          have M := Lib.hid (M.out.step hBelow)
          have l1 := load24M M.out.o ho
          have l2 := load24M M.out.n hnw
          go_wp2_with fail
          have hsx1 := Lib.hid (show Sof (some V) x1 from hBelow)
          refine hK2.out _ _ hsx1.out ?_
          clear hK2 K2 hBelow
          refine sv_look fun K0 hK0 => ?_
          simp only [pickM]
          go_wp2_with fail
          refine hK0.out _ ?_
          clear hK0 K0
          change Exit.then _ _ _ _ _
          go_wp2_with fail
          go_ret
          exact ⟨rfl, M.out.b⟩
        · have t5 : ((m : Int) == 0) = false := by rw [beq_eq_false_iff_ne]; omega
          have hv := HV.out
          first | have h1 := eq_true (show old = z from HQ.out.1) | have h1 := eq_false (show ¬ old = z from HQ.out.1)
          first | have h2 := eq_true (show old = new from HQ.out.2) | have h2 := eq_false (show ¬ old = new from HQ.out.2)
          simp [h1, h2, w1] at hv
          clear h1 h2
          subst hv
          clear w1 HV
          go_enter Tryd.func59, Tryd.ntmps59
          go_wp2_with fail
          generalize ((w.alloc (.cells (u32s TT) 32)).alloc (.cells (u8s old) 24)).alloc (.cells (u8s new) 24) = W at *
          have M := Lib.hid (HE.out.step (Below.refl _ _).drew)
          have l1 := load24M M.out.o ho
          have l2 := load24M M.out.n hnw
          have l3 := load32_run M.out.t
          clear HE
          refine wp_region_pv (.still [true, false, false, false, false, false, false, false, false, false, false, false, false, false, false, false, false, false] (.look [false, true, true, true, true, false, false, false, false, false, false, false, false, false, false, false, false, false] (.act [false, false, false, false, false, true, false, false, false, false, false, false, false, false, false, false, false, false] (.look [false, false, false, false, false, false, true, true, true, true, true, true, true, true, true, true, true, true] .stop)))) (by kernel_rfl) (by kernel_rfl) (fun _ _ d _ _ h => by cases d <;> exact h) ?_
          generalize W.drew = V at *
          refine sv_still fun K0 hK0 => ?_
          simp only [pickM]
          go_wp2_with fail
          refine hK0.out _ ?_
          clear hK0 K0
          refine sv_look fun K0 hK0 => ?_
          simp only [pickM]
          go_wp2_with fail
          refine hK0.out _ ?_
          clear hK0 K0
          refine sv_act fun K2 hK2 => ?_
          simp only [pickM]
          go_wp2_with fail
          have hBelow : Below V.heap.size V V := Below.refl _ _
          go_wp2_with fail
          have hsV := Lib.hid (show Sof (some V) V from hBelow)
          refine hK2.out _ _ hsV.out ?_
          clear hK2 K2 hBelow
          refine sv_look fun K0 hK0 => ?_
          simp only [pickM]
          go_wp2_with fail
          refine hK0.out _ ?_
          clear hK0 K0
          change Exit.then _ _ _ _ _
          go_wp2_with fail
          go_ret
          exact ⟨rfl, M.out.b⟩
    · have hv : verConL old new m n ps = 3 := by unfold verConL; rw [if_pos hmn, if_pos (by omega)]
      rw [hv]
      have t6 : (0 : Int) < (k : Int) := by omega
      have ways : m = 0 ∨ (m ≠ 0 ∧ m = n) := by omega
      clear hmn hv hP hd hk hk0
      rcases ways with rfl | ⟨w1, rfl⟩
      · go_enter Tryd.func59, Tryd.ntmps59
        go_wp2_with fail
        go_ret
        exact ⟨rfl, HE.out.b⟩
      · have t5 : ((m : Int) == 0) = false := by rw [beq_eq_false_iff_ne]; omega
        clear w1
        go_enter Tryd.func59, Tryd.ntmps59
        go_wp2_with fail
        go_ret
        exact ⟨rfl, HE.out.b⟩
  · have h1 : 1 ≤ m := by omega
    have t5 : ((m : Int) == 0) = false := by rw [beq_eq_false_iff_ne]; omega
    have t6 : ((m : Int) == (n : Int)) = false := by rw [beq_eq_false_iff_ne]; omega
    have hv : verConL old new m n ps = if ps.length ≠ lenC m n true then 3 else if (foldC m n true old ps).1 ≠ old ∨ (foldC m n true old ps).2 ≠ new then 27 else 0 := by unfold verConL; rw [if_neg hmn]
    rw [hk] at hv
    obtain ⟨hb1, hb2⟩ := both_fold n m true old ps h1 hm
    have hxo := bothL_ok n m true old ps h1 hm ho hoB hd
    have HF := Lib.hid (fun W (s : Below w.heap.size w W) => both_any n m true old ps W P k pc h1 hm hn ho hoB hk hk2 hkp hpc hd (hP.below s))
    by_cases hkl : k = lenC m n true
    · rw [if_neg (by omega)] at hv
      obtain ⟨e1, e2⟩ := hb2 (by omega)
      rw [← e1, ← e2] at hv
      rw [decide_eq_true (show ps.length = lenC m n true by omega)] at hb1
      clear e1 e2 hb2
      generalize bothL m n true old ps = r at *
      obtain ⟨x, y, z⟩ := r
      simp only at hxo HF hv hb1
      subst hb1
      have q1 := fun W => run_equalIn_dig24 W x old hxo.1.1 ho
      have q2 := fun W => run_equalIn_dig24 W y new hxo.2.1 hnw
      obtain ⟨V0, hV0⟩ : ∃ V0, verConL old new m n ps = V0 := ⟨_, rfl⟩
      rw [hV0]
      rw [hV0] at hv
      have HV := Lib.hid hv
      have HX := Lib.hid hxo
      clear hv hV0 hP hd hk hkl hmn hxo
      by_cases e1 : x = old <;> by_cases e2 : y = new
      all_goals
        first | rw [decide_eq_true e1] at q1 | rw [decide_eq_false e1] at q1
        first | rw [decide_eq_true e2] at q2 | rw [decide_eq_false e2] at q2
        have hv := HV.out
        first | have h1' := eq_true e1 | have h1' := eq_false e1
        first | have h2' := eq_true e2 | have h2' := eq_false e2
        simp [h1', h2'] at hv
        subst hv
        clear HV h1' h2' e1 e2
        go_enter Tryd.func59, Tryd.ntmps59
        go_upto_region 9 with (fail)
        generalize ((w.alloc (.cells (u32s TT) 32)).alloc (.cells (u8s old) 24)).alloc (.cells (u8s new) 24) = W at *
        have l0 := load24M HE.out.o ho
        have l1 := load32_run HE.out.t
        go_wp2_with fail
        refine (HF.out _ HE.out.b).mono ?_
        rintro e w2 ⟨rfl, B2⟩
        have M := Lib.hid (HE.out.step B2)
        clear B2 HE l0 l1
        have F1 : Blk ((w2.alloc (.cells (u8s (zer 32)) 24)).alloc (.cells (u8s (zer 32)) 24)) w2.heap.size 24 (u8s (zer 32)) := (Blk.new _ _ _).alloc _
        have F2 : Blk (((w2.alloc (.cells (u8s (zer 32)) 24)).alloc (.cells (u8s (zer 32)) 24)).setRow w2.heap.size (u8s x)) (w2.heap.size + 1) 24 (u8s (zer 32)) := (Blk.new1 _ _ _ _).farRow (by omega) _
        have s1 := store24_run F1 rfl HX.out.1.1
        have s2 := store24_run F2 rfl HX.out.2.1
        have G1 := (F1.setRow (u8s x)).farRow (k := w2.heap.size + 1) (by omega) (u8s y)
        have G2 := F2.setRow (u8s y)
        have hlo := M.out.o.lt
        have hln := M.out.n.lt
        have G3 := (((M.out.o.alloc (.cells (u8s (zer 32)) 24)).alloc (.cells (u8s (zer 32)) 24)).farRow (k := w2.heap.size) (by omega) (u8s x)).farRow (k := w2.heap.size + 1) (by omega) (u8s y)
        have G4 := (((M.out.n.alloc (.cells (u8s (zer 32)) 24)).alloc (.cells (u8s (zer 32)) 24)).farRow (k := w2.heap.size) (by omega) (u8s x)).farRow (k := w2.heap.size + 1) (by omega) (u8s y)
        have l1 := load24M G1 HX.out.1.1
        have l2 := load24M G2 HX.out.2.1
        have l3 := load24M G3 ho
        have l4 := load24M G4 hnw
        have hle := M.out.b.size
        clear F1 F2 G1 G2 G3 G4
        go_wp2_with fail
        go_ret
        exact ⟨rfl, below_setRow' (below_setRow' (((M.out.b).alloc hle _).alloc (by simp; omega) _) hle _) (by omega) _⟩
    · rw [if_pos (by omega)] at hv
      rw [hv]
      rw [decide_eq_false (show ¬ ps.length = lenC m n true by omega)] at hb1
      clear hb2 hv
      generalize bothL m n true old ps = r at *
      obtain ⟨x, y, z⟩ := r
      simp only at hxo HF hb1
      subst hb1
      have HX := Lib.hid hxo
      clear hP hd hk hkl hmn hxo
      go_enter Tryd.func59, Tryd.ntmps59
      go_upto_region 9 with (fail)
      generalize ((w.alloc (.cells (u32s TT) 32)).alloc (.cells (u8s old) 24)).alloc (.cells (u8s new) 24) = W at *
      have l0 := load24M HE.out.o ho
      have l1 := load32_run HE.out.t
      go_wp2_with fail
      refine (HF.out _ HE.out.b).mono ?_
      rintro e w2 ⟨rfl, B2⟩
      have M := Lib.hid (HE.out.step B2)
      clear B2 HE l0 l1
      have F1 : Blk ((w2.alloc (.cells (u8s (zer 32)) 24)).alloc (.cells (u8s (zer 32)) 24)) w2.heap.size 24 (u8s (zer 32)) := (Blk.new _ _ _).alloc _
      have F2 : Blk (((w2.alloc (.cells (u8s (zer 32)) 24)).alloc (.cells (u8s (zer 32)) 24)).setRow w2.heap.size (u8s x)) (w2.heap.size + 1) 24 (u8s (zer 32)) := (Blk.new1 _ _ _ _).farRow (by omega) _
      have s1 := store24_run F1 rfl HX.out.1.1
      have s2 := store24_run F2 rfl HX.out.2.1
      have hle := M.out.b.size
      clear F1 F2
      go_wp2_with fail
      go_ret
      exact ⟨rfl, below_setRow' (below_setRow' (((M.out.b).alloc hle _).alloc (by simp; omega) _) hle _) (by omega) _⟩
end Go.Proofs.YtediocpdpghbfaaDoor
