/- Merkle: changed (60): a claim with one change. -/
import Derived.Test.YtediocpdpghbfaaDoorMcla
import Derived.Test.YtediocpdpghbfaaDoorMfol
import Derived.Deep.DeepCutAuto
set_option linter.unusedSimpArgs false
set_option linter.unusedVariables false
namespace Go.Proofs.YtediocpdpghbfaaDoor
open Go Go.RowKit

attribute [local go_sem ↓] ld25 st25 ld87 st87 alc87_rule bld87_rule bs67_rule
attribute [local go_sem] alc87_run
theorem byte_at {l : List Nat} (h : Bytes l) (j : Nat) : l.getD j 0 < 256 := h j
theorem ow_at {w : World} {base E sz g n cap : Nat} {xs : List Value} (h : OW w base E sz (some ⟨g, 0, none⟩) n cap xs) {m : Nat} {v : Value} (hk : xs[m]? = some v) : w.cell? ⟨g, m, none⟩ = some v := by
  have := (h.lv.2 _ rfl (fun e => by rw [e] at hk; simp at hk)).2.2 m v hk
  simpa using this
theorem idx_mod (a m : Nat) (h : 0 < m) : ∃ j : Nat, j < m ∧ (a : Int) % (m : Int) = (j : Int) := ⟨a % m, Nat.mod_lt _ h, by omega⟩
set_option maxRecDepth 100000 in
set_option maxHeartbeats 8000000 in
theorem changed_any (w : World) (root : List Nat) (hr : root.length = 32) (hrB : Bytes root) (n i : Int) (leaf : List Nat) (A : Option Addr) (la ca : Nat) (hll : leaf.length = la) (hla : la ≤ 1000) (hlc : la ≤ ca) (hlB : Bytes leaf) (hR : RW w A ca leaf)
    (ps : List (List Nat)) (P : Option Addr) (k pc : Nat) (hkl : ps.length = k) (hk : k ≤ 1000) (hd : Digs ps) (hP : LV w P (hcell ps)) (hpn : P = none → pc = 0) (kd aa bb : Nat) (hkd : kd < 256) (ha : aa < 256) (hb : bb < 256) :
    Calls Tryd.prog 60 #[.agg (clC root n i (.slice A la ca) (.slice P k pc)), .agg #[.int .u8 kd, .int .u8 aa, .int .u8 bb]] w fun e w' => ClRes w w' e la k := by
  have HI := Lib.hid (And.intro hr (And.intro hrB (And.intro hll (And.intro hlB (And.intro hR (And.intro hkl (And.intro hd (And.intro hP hpn))))))))
  clear hr hrB hll hlB hR hkl hd hP hpn
  have HV0 := Lib.hid (chv_start w kd aa bb (clC root n i (.slice A la ca) (.slice P k pc)))
  go_enter Tryd.func60, Tryd.ntmps60
  go_upto_if 10 with (fail)
  go_cut [5] (fun v wx => ∃ b : Nat, b < 256 ∧ v = .int .u8 b ∧ wx = (((w.alloc (.cells (clC root n i (.slice A la ca) (.slice P k pc)) 87)).alloc (.cells #[.int .u8 kd, .int .u8 aa, .int .u8 bb] 84)).alloc (.cells z87 87)))
  case first =>
    by_cases h0 : bb = 0
    · subst h0
      go_wp2_with fail
      go_meet
      exact ⟨1, by omega, rfl, rfl⟩
    · have t0 : ((bb : Int) == 0) = false := by rw [beq_eq_false_iff_ne]; omega
      clear h0
      go_wp2_with fail
      go_meet
      exact ⟨bb, by omega, rfl, rfl⟩
  case rest =>
  obtain ⟨b, hb2, rfl, rfl⟩ := hcut
  generalize (((w.alloc (.cells (clC root n i (.slice A la ca) (.slice P k pc)) 87)).alloc (.cells #[.int .u8 kd, .int .u8 aa, .int .u8 bb] 84)).alloc (.cells z87 87)) = W at *
  go_upto_region 4 with (fail)
  go_cut [6] (fun v wx => ∃ (g6 c1 c2 : Nat) (A1 P1 : Option Addr), v = .pointer (some ⟨g6, 0, none⟩) ∧ ChSt w wx W.heap.size g6 kd aa bb root n i A1 la c1 leaf P1 k k c2 ps ∧ W.heap.size ≤ wx.heap.size)
  case first =>
    have HV := Lib.hid (HV0.out.step (Below.refl _ _).drew)
    have hVW : W.drew.heap.size = W.heap.size := rfl
    refine wp_region_pv (.look [true, true, true, true, true, true, false, true, true, false, false, true, true, false, false, false, false] (.fork [false, false, false, false, false, false, true, false, false, false, false, false, false, false, false, false, false] (.fork [false, false, false, false, false, false, false, false, false, true, false, false, false, false, false, false, false] (.fork [false, false, false, false, false, false, false, false, false, false, true, false, false, false, false, false, false] (.fork [false, false, false, false, false, false, false, false, false, false, false, false, false, true, false, false, false] (.look [false, false, false, false, false, false, false, false, false, false, false, false, false, false, true, false, false] (.act [false, false, false, false, false, false, false, false, false, false, false, false, false, false, false, true, false] (.last [false, false, false, false, false, false, false, false, false, false, false, false, false, false, false, false, true] .stop))) (.act [false, false, false, false, false, false, false, false, false, false, false, false, false, false, false, true, false] (.act [false, false, false, false, false, false, false, false, false, false, false, false, false, true, false, false, false] (.look [false, false, false, false, false, false, false, false, false, false, false, false, false, false, true, false, false] (.last [false, false, false, false, false, false, false, false, false, false, false, false, false, false, false, false, true] .stop))))) (.act [false, false, false, false, false, false, false, false, false, false, false, false, false, false, false, true, false] (.act [false, false, false, false, false, false, false, false, false, false, true, false, false, false, false, false, false] (.act [false, false, false, false, false, false, false, false, false, false, false, false, false, true, false, false, false] (.look [false, false, false, false, false, false, false, false, false, false, false, false, false, false, true, false, false] (.last [false, false, false, false, false, false, false, false, false, false, false, false, false, false, false, false, true] .stop)))))) (.fork [false, false, false, false, false, false, false, false, false, false, true, false, false, false, false, false, false] (.fork [false, false, false, false, false, false, false, false, false, true, false, false, false, false, false, false, false] (.fork [false, false, false, false, false, false, false, false, false, false, false, false, false, true, false, false, false] (.look [false, false, false, false, false, false, false, false, false, false, false, false, false, false, true, false, false] (.act [false, false, false, false, false, false, false, false, false, false, false, false, false, false, false, true, false] (.last [false, false, false, false, false, false, false, false, false, false, false, false, false, false, false, false, true] .stop))) (.act [false, false, false, false, false, false, false, false, false, false, false, false, false, false, false, true, false] (.act [false, false, false, false, false, false, false, false, false, false, false, false, false, true, false, false, false] (.look [false, false, false, false, false, false, false, false, false, false, false, false, false, false, true, false, false] (.last [false, false, false, false, false, false, false, false, false, false, false, false, false, false, false, false, true] .stop))))) (.act [false, false, false, false, false, false, false, false, false, false, false, false, false, false, false, true, false] (.act [false, false, false, false, false, false, false, false, false, true, false, false, false, false, false, false, false] (.act [false, false, false, false, false, false, false, false, false, false, false, false, false, true, false, false, false] (.look [false, false, false, false, false, false, false, false, false, false, false, false, false, false, true, false, false] (.last [false, false, false, false, false, false, false, false, false, false, false, false, false, false, false, false, true] .stop)))))) (.act [false, false, false, false, false, false, false, false, false, false, false, false, false, false, false, true, false] (.fork [false, false, false, false, false, false, false, false, false, true, false, false, false, false, false, false, false] (.act [false, false, false, false, false, false, false, false, false, false, true, false, false, false, false, false, false] (.act [false, false, false, false, false, false, false, false, false, false, false, false, false, true, false, false, false] (.look [false, false, false, false, false, false, false, false, false, false, false, false, false, false, true, false, false] (.last [false, false, false, false, false, false, false, false, false, false, false, false, false, false, false, false, true] .stop)))) (.act [false, false, false, false, false, false, false, false, false, false, true, false, false, false, false, false, false] (.act [false, false, false, false, false, false, false, false, false, true, false, false, false, false, false, false, false] (.act [false, false, false, false, false, false, false, false, false, false, false, false, false, true, false, false, false] (.look [false, false, false, false, false, false, false, false, false, false, false, false, false, false, true, false, false] (.last [false, false, false, false, false, false, false, false, false, false, false, false, false, false, false, false, true] .stop))))))))) (.fork [false, false, false, false, false, false, false, false, false, false, true, false, false, false, false, false, false] (.fork [false, false, false, false, false, false, true, false, false, false, false, false, false, false, false, false, false] (.fork [false, false, false, false, false, false, false, false, false, true, false, false, false, false, false, false, false] (.fork [false, false, false, false, false, false, false, false, false, false, false, false, false, true, false, false, false] (.look [false, false, false, false, false, false, false, false, false, false, false, false, false, false, true, false, false] (.act [false, false, false, false, false, false, false, false, false, false, false, false, false, false, false, true, false] (.last [false, false, false, false, false, false, false, false, false, false, false, false, false, false, false, false, true] .stop))) (.act [false, false, false, false, false, false, false, false, false, false, false, false, false, false, false, true, false] (.act [false, false, false, false, false, false, false, false, false, false, false, false, false, true, false, false, false] (.look [false, false, false, false, false, false, false, false, false, false, false, false, false, false, true, false, false] (.last [false, false, false, false, false, false, false, false, false, false, false, false, false, false, false, false, true] .stop))))) (.act [false, false, false, false, false, false, false, false, false, false, false, false, false, false, false, true, false] (.act [false, false, false, false, false, false, false, false, false, true, false, false, false, false, false, false, false] (.act [false, false, false, false, false, false, false, false, false, false, false, false, false, true, false, false, false] (.look [false, false, false, false, false, false, false, false, false, false, false, false, false, false, true, false, false] (.last [false, false, false, false, false, false, false, false, false, false, false, false, false, false, false, false, true] .stop)))))) (.act [false, false, false, false, false, false, false, false, false, false, false, false, false, false, false, true, false] (.act [false, false, false, false, false, false, true, false, false, false, false, false, false, false, false, false, false] (.act [false, false, false, false, false, false, false, false, false, true, false, false, false, false, false, false, false] (.act [false, false, false, false, false, false, false, false, false, false, false, false, false, true, false, false, false] (.look [false, false, false, false, false, false, false, false, false, false, false, false, false, false, true, false, false] (.last [false, false, false, false, false, false, false, false, false, false, false, false, false, false, false, false, true] .stop))))))) (.act [false, false, false, false, false, false, false, false, false, false, false, false, false, false, false, true, false] (.fork [false, false, false, false, false, false, true, false, false, false, false, false, false, false, false, false, false] (.fork [false, false, false, false, false, false, false, false, false, true, false, false, false, false, false, false, false] (.act [false, false, false, false, false, false, false, false, false, false, true, false, false, false, false, false, false] (.act [false, false, false, false, false, false, false, false, false, false, false, false, false, true, false, false, false] (.look [false, false, false, false, false, false, false, false, false, false, false, false, false, false, true, false, false] (.last [false, false, false, false, false, false, false, false, false, false, false, false, false, false, false, false, true] .stop)))) (.act [false, false, false, false, false, false, false, false, false, false, true, false, false, false, false, false, false] (.act [false, false, false, false, false, false, false, false, false, true, false, false, false, false, false, false, false] (.act [false, false, false, false, false, false, false, false, false, false, false, false, false, true, false, false, false] (.look [false, false, false, false, false, false, false, false, false, false, false, false, false, false, true, false, false] (.last [false, false, false, false, false, false, false, false, false, false, false, false, false, false, false, false, true] .stop)))))) (.act [false, false, false, false, false, false, false, false, false, false, true, false, false, false, false, false, false] (.act [false, false, false, false, false, false, true, false, false, false, false, false, false, false, false, false, false] (.act [false, false, false, false, false, false, false, false, false, true, false, false, false, false, false, false, false] (.act [false, false, false, false, false, false, false, false, false, false, false, false, false, true, false, false, false] (.look [false, false, false, false, false, false, false, false, false, false, false, false, false, false, true, false, false] (.last [false, false, false, false, false, false, false, false, false, false, false, false, false, false, false, false, true] .stop))))))))))) (by kernel_rfl) (by kernel_rfl) (fun _ _ d _ _ h => by cases d <;> exact h) ?_
    generalize W.drew = V at *
    have HVW := Lib.hid hVW
    clear hVW
    have hVW := HVW
    clear HVW HV0
    have HB := Lib.hid (Below.refl V.heap.size V)
    have l25 := load87_root HV.out.x HI.out.1
    have e32 := (HV.out.x.cell 32).trans (clC_32 root HI.out.1 n i _ _)
    have e33 := (HV.out.x.cell 33).trans (clC_33 root HI.out.1 n i _ _)
    have e34 := (HV.out.x.cell 34).trans (clC_34 root HI.out.1 n i (.slice A la ca) (.slice P k pc))
    have e35 := (HV.out.x.cell 35).trans (clC_35 root HI.out.1 n i (.slice A la ca) (.slice P k pc))
    have hb87 := fun (W : World) (A' P' : Option Addr) (c1 c2 : Nat) => bld87_run W root HI.out.1 n i A' P' la c1 k c2
    refine sv_look fun K0 hK0 => ?_
    simp only [pickM]
    go_wp2_with fail
    refine hK0.out _ ?_
    clear hK0 K0
    refine sv_fork (fun K2 hK2 => ?_) ?_
    · simp only [pickM]
      go_wp2_with fail
      obtain ⟨x1, hx⟩ : ∃ X, X = World.alloc V (.cells #[] 5) := ⟨_, rfl⟩
      rw [← hx]
      have hBelow : Below V.heap.size V x1 := by rw [hx]; exact (Below.refl _ _).alloc (Nat.le_refl _) _
      have L := Lib.hid (show OW x1 V.heap.size 5 1 (some ⟨V.heap.size, 0, none⟩) 0 0 [] by rw [hx]; exact World.ownsRow_made V #[] 0 HB.out.size (by decide) rfl)
      have HB2 := Lib.hid (HB.out.trans (hBelow.mono HB.out.size))
      clear HB hx
      have HB := HB2
      clear HB2
      go_wp2_with fail
      have hsx1 := Lib.hid (show Sof (some V) x1 from hBelow)
      refine hK2.out _ _ hsx1.out ?_
      clear hK2 K2 hBelow
      refine sv_fork (fun K2 hK2 => ?_) ?_
      · simp only [pickM]
        refine wpList_appWG 22 5 (.int .u8 0) 1 1 Tryd.underlying22 info5 rfl (by decide) rfl (.tmp 17) (.tmp 19) rfl V.heap.size (some ⟨V.heap.size, 0, none⟩) 0 0 [] rfl L.out A la ca (bvals leaf) rfl (by rw [bvals_length, HI.out.2.2.1]; omega) (fun e => (HI.out.2.2.2.2.1.1 e).1) ((lv_rw HI.out.2.2.2.2.1).below (HV.out.b.trans (HB.out.mono (Nat.le_of_lt HV.out.x.lt)))) (bvals_one leaf) (by omega) (by omega) HB.out.size ?_
        intro A1 c1 x2 O1 hB1 hG1
        rw [Nat.zero_add, List.nil_append] at O1
        have L2 := Lib.hid O1
        clear L O1
        have L := L2
        clear L2
        have hSof := HB.out.trans hB1
        have HB2 := Lib.hid hSof
        clear HB hB1 hG1
        have HB := HB2
        clear HB2
        go_wp2_with fail
        have hsx2 := Lib.hid (show Sof (some V) x2 from hSof)
        refine hK2.out _ _ hsx2.out ?_
        clear hK2 K2 hSof
        refine sv_fork (fun K2 hK2 => ?_) ?_
        · simp only [pickM]
          go_wp2_with fail
          obtain ⟨x3, hx⟩ : ∃ X, X = World.alloc x2 (.cells #[] 25) := ⟨_, rfl⟩
          rw [← hx]
          have hBelow : Below x2.heap.size x2 x3 := by rw [hx]; exact (Below.refl _ _).alloc (Nat.le_refl _) _
          have L := Lib.hid (L.out.below' hBelow)
          have Pp := Lib.hid (show OW x3 V.heap.size 25 32 (some ⟨x2.heap.size, 0, none⟩) 0 0 [] by rw [hx]; exact World.ownsRow_made x2 #[] 0 HB.out.size (by decide) rfl)
          have HB2 := Lib.hid (HB.out.trans (hBelow.mono HB.out.size))
          clear HB hx
          have HB := HB2
          clear HB2
          go_wp2_with fail
          have hsx3 := Lib.hid (Sof.step hsx2.out hBelow)
          refine hK2.out _ _ hsx3.out ?_
          clear hK2 K2 hBelow
          refine sv_fork (fun K2 hK2 => ?_) ?_
          · simp only [pickM]
            refine wpList_appWG 67 25 (.agg (u8s (zer 32))) 32 32 Tryd.underlying67 info25 rfl (by decide) rfl (.tmp 21) (.tmp 23) rfl V.heap.size (some ⟨x2.heap.size, 0, none⟩) 0 0 [] rfl Pp.out P k pc (hcell ps) rfl (by rw [hcell_length ps HI.out.2.2.2.2.2.2.1, HI.out.2.2.2.2.2.1]; omega) HI.out.2.2.2.2.2.2.2.2 (HI.out.2.2.2.2.2.2.2.1.below (HV.out.b.trans (HB.out.mono (Nat.le_of_lt HV.out.x.lt)))) (hcell_one ps) (by omega) (by omega) HB.out.size ?_
            intro P1 c2 x4 O1 hB1 hG1
            have L := Lib.hid (L.out.grownT hG1 Pp.out.rowTy (by decide))
            rw [Nat.zero_add, List.nil_append] at O1
            have Pp2 := Lib.hid O1
            clear Pp O1
            have Pp := Pp2
            clear Pp2
            have hSof := HB.out.trans hB1
            have HB2 := Lib.hid hSof
            clear HB hB1 hG1
            have HB := HB2
            clear HB2
            go_wp2_with fail
            have hsx4 := Lib.hid (show Sof (some V) x4 from hSof)
            refine hK2.out _ _ hsx4.out ?_
            clear hK2 K2 hSof
            refine sv_look fun K0 hK0 => ?_
            simp only [pickM]
            go_wp2_with fail
            refine hK0.out _ ?_
            clear hK0 K0
            refine sv_act fun K2 hK2 => ?_
            simp only [pickM]
            go_wp2_with fail
            obtain ⟨x5, hx⟩ : ∃ X, X = World.alloc x4 (.cells z87 87) := ⟨_, rfl⟩
            rw [← hx]
            have hBelow : Below x4.heap.size x4 x5 := by rw [hx]; exact (Below.refl _ _).alloc (Nat.le_refl _) _
            have L := Lib.hid (L.out.below' hBelow)
            have Pp := Lib.hid (Pp.out.below' hBelow)
            have X := Lib.hid (show Blk x5 x4.heap.size 87 z87 by rw [hx]; exact Blk.new x4 87 _)
            have hXle : V.heap.size ≤ x4.heap.size := HB.out.size
            have HB2 := Lib.hid (HB.out.trans (hBelow.mono HB.out.size))
            clear HB hx
            have HB := HB2
            clear HB2
            go_wp2_with fail
            have hsx5 := Lib.hid (show Sof (some x4) x5 from hBelow)
            refine hK2.out _ _ hsx5.out ?_
            clear hK2 K2 hBelow
            refine sv_last fun K2 hK2 => ?_
            simp only [pickM]
            have s1 := store87_run X.out (by rfl) (clC_size root HI.out.1 n i (.slice A1 la c1) (.slice P1 k c2)) (clC_one root n i A1 P1 la c1 k c2)
            go_wp2_with fail
            obtain ⟨x6, hx⟩ : ∃ X, X = World.setRow x5 (x4.heap.size) (clC root n i (.slice A1 la c1) (.slice P1 k c2)) := ⟨_, rfl⟩
            rw [← hx]
            have hlt : V.heap.size ≤ x4.heap.size := hXle
            have MM := Lib.hid (show ChSt w x6 V.heap.size (x4.heap.size) kd aa bb root n i A1 la c1 leaf P1 k k c2 ps from ⟨by rw [hx]; exact ((HV.out.step HB.out).c).farRow (by have := HV.out.le; omega) _, by rw [hx]; exact ((HV.out.step HB.out).r).farRow (by have := HV.out.le; omega) _, by rw [hx]; exact X.out.setRow _, by rw [hx]; exact L.out.rowT X.out (by decide) _, by rw [hx]; exact Pp.out.rowT X.out (by decide) _, by rw [hx]; exact below_setRow' ((HV.out.step HB.out).b) (by have := HV.out.le; omega) _, by have := HV.out.le; omega, by have := HV.out.le; omega⟩)
            have hsz9 := Lib.hid (show V.heap.size ≤ x6.heap.size by rw [hx]; simpa using HB.out.size)
            clear hx s1 X L Pp HB
            go_wp2_with fail
            refine hK2.out _ _ ?_
            clear hK2 K2
            change Exit.then _ _ _ _ _
            go_wp2_with fail
            go_meet
            exact ⟨_, c1, c2, A1, P1, rfl, hVW.out ▸ MM.out, hVW.out ▸ hsz9.out⟩
          · refine sv_act fun K2 hK2 => ?_
            simp only [pickM]
            go_wp2_with fail
            obtain ⟨x7, hx⟩ : ∃ X, X = World.alloc x3 (.cells z87 87) := ⟨_, rfl⟩
            rw [← hx]
            have hBelow : Below x3.heap.size x3 x7 := by rw [hx]; exact (Below.refl _ _).alloc (Nat.le_refl _) _
            have L := Lib.hid (L.out.below' hBelow)
            have Pp := Lib.hid (Pp.out.below' hBelow)
            have X := Lib.hid (show Blk x7 x3.heap.size 87 z87 by rw [hx]; exact Blk.new x3 87 _)
            have hXle : V.heap.size ≤ x3.heap.size := HB.out.size
            have HB2 := Lib.hid (HB.out.trans (hBelow.mono HB.out.size))
            clear HB hx
            have HB := HB2
            clear HB2
            go_wp2_with fail
            have hsx7 := Lib.hid (Sof.step hsx3.out hBelow)
            refine hK2.out _ _ hsx7.out ?_
            clear hK2 K2 hBelow
            refine sv_act fun K2 hK2 => ?_
            simp only [pickM]
            refine wpList_appWG 67 25 (.agg (u8s (zer 32))) 32 32 Tryd.underlying67 info25 rfl (by decide) rfl (.tmp 21) (.tmp 23) rfl V.heap.size (some ⟨x2.heap.size, 0, none⟩) 0 0 [] rfl Pp.out P k pc (hcell ps) rfl (by rw [hcell_length ps HI.out.2.2.2.2.2.2.1, HI.out.2.2.2.2.2.1]; omega) HI.out.2.2.2.2.2.2.2.2 (HI.out.2.2.2.2.2.2.2.1.below (HV.out.b.trans (HB.out.mono (Nat.le_of_lt HV.out.x.lt)))) (hcell_one ps) (by omega) (by omega) HB.out.size ?_
            intro P1 c2 x8 O1 hB1 hG1
            have L := Lib.hid (L.out.grownT hG1 Pp.out.rowTy (by decide))
            have X := Lib.hid (X.out.grownT hG1 Pp.out.rowTy (by decide))
            rw [Nat.zero_add, List.nil_append] at O1
            have Pp2 := Lib.hid O1
            clear Pp O1
            have Pp := Pp2
            clear Pp2
            have hSof := HB.out.trans hB1
            have HB2 := Lib.hid hSof
            clear HB hB1 hG1
            have HB := HB2
            clear HB2
            go_wp2_with fail
            have hsx8 := Lib.hid (show Sof (some V) x8 from hSof)
            refine hK2.out _ _ hsx8.out ?_
            clear hK2 K2 hSof
            refine sv_look fun K0 hK0 => ?_
            simp only [pickM]
            go_wp2_with fail
            refine hK0.out _ ?_
            clear hK0 K0
            refine sv_last fun K2 hK2 => ?_
            simp only [pickM]
            have s1 := store87_run X.out (by rfl) (clC_size root HI.out.1 n i (.slice A1 la c1) (.slice P1 k c2)) (clC_one root n i A1 P1 la c1 k c2)
            go_wp2_with fail
            obtain ⟨x9, hx⟩ : ∃ X, X = World.setRow x8 (x3.heap.size) (clC root n i (.slice A1 la c1) (.slice P1 k c2)) := ⟨_, rfl⟩
            rw [← hx]
            have hlt : V.heap.size ≤ x3.heap.size := hXle
            have MM := Lib.hid (show ChSt w x9 V.heap.size (x3.heap.size) kd aa bb root n i A1 la c1 leaf P1 k k c2 ps from ⟨by rw [hx]; exact ((HV.out.step HB.out).c).farRow (by have := HV.out.le; omega) _, by rw [hx]; exact ((HV.out.step HB.out).r).farRow (by have := HV.out.le; omega) _, by rw [hx]; exact X.out.setRow _, by rw [hx]; exact L.out.rowT X.out (by decide) _, by rw [hx]; exact Pp.out.rowT X.out (by decide) _, by rw [hx]; exact below_setRow' ((HV.out.step HB.out).b) (by have := HV.out.le; omega) _, by have := HV.out.le; omega, by have := HV.out.le; omega⟩)
            have hsz9 := Lib.hid (show V.heap.size ≤ x9.heap.size by rw [hx]; simpa using HB.out.size)
            clear hx s1 X L Pp HB
            go_wp2_with fail
            refine hK2.out _ _ ?_
            clear hK2 K2
            change Exit.then _ _ _ _ _
            go_wp2_with fail
            go_meet
            exact ⟨_, c1, c2, A1, P1, rfl, hVW.out ▸ MM.out, hVW.out ▸ hsz9.out⟩
        · refine sv_act fun K2 hK2 => ?_
          simp only [pickM]
          go_wp2_with fail
          obtain ⟨x10, hx⟩ : ∃ X, X = World.alloc x2 (.cells z87 87) := ⟨_, rfl⟩
          rw [← hx]
          have hBelow : Below x2.heap.size x2 x10 := by rw [hx]; exact (Below.refl _ _).alloc (Nat.le_refl _) _
          have L := Lib.hid (L.out.below' hBelow)
          have X := Lib.hid (show Blk x10 x2.heap.size 87 z87 by rw [hx]; exact Blk.new x2 87 _)
          have hXle : V.heap.size ≤ x2.heap.size := HB.out.size
          have HB2 := Lib.hid (HB.out.trans (hBelow.mono HB.out.size))
          clear HB hx
          have HB := HB2
          clear HB2
          go_wp2_with fail
          have hsx10 := Lib.hid (Sof.step hsx2.out hBelow)
          refine hK2.out _ _ hsx10.out ?_
          clear hK2 K2 hBelow
          refine sv_act fun K2 hK2 => ?_
          simp only [pickM]
          go_wp2_with fail
          obtain ⟨x11, hx⟩ : ∃ X, X = World.alloc x10 (.cells #[] 25) := ⟨_, rfl⟩
          rw [← hx]
          have hBelow : Below x10.heap.size x10 x11 := by rw [hx]; exact (Below.refl _ _).alloc (Nat.le_refl _) _
          have L := Lib.hid (L.out.below' hBelow)
          have X := Lib.hid (X.out.below hBelow X.out.lt)
          have Pp := Lib.hid (show OW x11 V.heap.size 25 32 (some ⟨x10.heap.size, 0, none⟩) 0 0 [] by rw [hx]; exact World.ownsRow_made x10 #[] 0 HB.out.size (by decide) rfl)
          have HB2 := Lib.hid (HB.out.trans (hBelow.mono HB.out.size))
          clear HB hx
          have HB := HB2
          clear HB2
          go_wp2_with fail
          have hsx11 := Lib.hid (Sof.step hsx10.out hBelow)
          refine hK2.out _ _ hsx11.out ?_
          clear hK2 K2 hBelow
          refine sv_act fun K2 hK2 => ?_
          simp only [pickM]
          refine wpList_appWG 67 25 (.agg (u8s (zer 32))) 32 32 Tryd.underlying67 info25 rfl (by decide) rfl (.tmp 21) (.tmp 23) rfl V.heap.size (some ⟨x10.heap.size, 0, none⟩) 0 0 [] rfl Pp.out P k pc (hcell ps) rfl (by rw [hcell_length ps HI.out.2.2.2.2.2.2.1, HI.out.2.2.2.2.2.1]; omega) HI.out.2.2.2.2.2.2.2.2 (HI.out.2.2.2.2.2.2.2.1.below (HV.out.b.trans (HB.out.mono (Nat.le_of_lt HV.out.x.lt)))) (hcell_one ps) (by omega) (by omega) HB.out.size ?_
          intro P1 c2 x12 O1 hB1 hG1
          have L := Lib.hid (L.out.grownT hG1 Pp.out.rowTy (by decide))
          have X := Lib.hid (X.out.grownT hG1 Pp.out.rowTy (by decide))
          rw [Nat.zero_add, List.nil_append] at O1
          have Pp2 := Lib.hid O1
          clear Pp O1
          have Pp := Pp2
          clear Pp2
          have hSof := HB.out.trans hB1
          have HB2 := Lib.hid hSof
          clear HB hB1 hG1
          have HB := HB2
          clear HB2
          go_wp2_with fail
          have hsx12 := Lib.hid (show Sof (some V) x12 from hSof)
          refine hK2.out _ _ hsx12.out ?_
          clear hK2 K2 hSof
          refine sv_look fun K0 hK0 => ?_
          simp only [pickM]
          go_wp2_with fail
          refine hK0.out _ ?_
          clear hK0 K0
          refine sv_last fun K2 hK2 => ?_
          simp only [pickM]
          have s1 := store87_run X.out (by rfl) (clC_size root HI.out.1 n i (.slice A1 la c1) (.slice P1 k c2)) (clC_one root n i A1 P1 la c1 k c2)
          go_wp2_with fail
          obtain ⟨x13, hx⟩ : ∃ X, X = World.setRow x12 (x2.heap.size) (clC root n i (.slice A1 la c1) (.slice P1 k c2)) := ⟨_, rfl⟩
          rw [← hx]
          have hlt : V.heap.size ≤ x2.heap.size := hXle
          have MM := Lib.hid (show ChSt w x13 V.heap.size (x2.heap.size) kd aa bb root n i A1 la c1 leaf P1 k k c2 ps from ⟨by rw [hx]; exact ((HV.out.step HB.out).c).farRow (by have := HV.out.le; omega) _, by rw [hx]; exact ((HV.out.step HB.out).r).farRow (by have := HV.out.le; omega) _, by rw [hx]; exact X.out.setRow _, by rw [hx]; exact L.out.rowT X.out (by decide) _, by rw [hx]; exact Pp.out.rowT X.out (by decide) _, by rw [hx]; exact below_setRow' ((HV.out.step HB.out).b) (by have := HV.out.le; omega) _, by have := HV.out.le; omega, by have := HV.out.le; omega⟩)
          have hsz9 := Lib.hid (show V.heap.size ≤ x13.heap.size by rw [hx]; simpa using HB.out.size)
          clear hx s1 X L Pp HB
          go_wp2_with fail
          refine hK2.out _ _ ?_
          clear hK2 K2
          change Exit.then _ _ _ _ _
          go_wp2_with fail
          go_meet
          exact ⟨_, c1, c2, A1, P1, rfl, hVW.out ▸ MM.out, hVW.out ▸ hsz9.out⟩
      refine sv_fork (fun K2 hK2 => ?_) ?_
      · simp only [pickM]
        go_wp2_with fail
        obtain ⟨x14, hx⟩ : ∃ X, X = World.alloc x1 (.cells #[] 25) := ⟨_, rfl⟩
        rw [← hx]
        have hBelow : Below x1.heap.size x1 x14 := by rw [hx]; exact (Below.refl _ _).alloc (Nat.le_refl _) _
        have L := Lib.hid (L.out.below' hBelow)
        have Pp := Lib.hid (show OW x14 V.heap.size 25 32 (some ⟨x1.heap.size, 0, none⟩) 0 0 [] by rw [hx]; exact World.ownsRow_made x1 #[] 0 HB.out.size (by decide) rfl)
        have HB2 := Lib.hid (HB.out.trans (hBelow.mono HB.out.size))
        clear HB hx
        have HB := HB2
        clear HB2
        go_wp2_with fail
        have hsx14 := Lib.hid (Sof.step hsx1.out hBelow)
        refine hK2.out _ _ hsx14.out ?_
        clear hK2 K2 hBelow
        refine sv_fork (fun K2 hK2 => ?_) ?_
        · simp only [pickM]
          refine wpList_appWG 22 5 (.int .u8 0) 1 1 Tryd.underlying22 info5 rfl (by decide) rfl (.tmp 17) (.tmp 19) rfl V.heap.size (some ⟨V.heap.size, 0, none⟩) 0 0 [] rfl L.out A la ca (bvals leaf) rfl (by rw [bvals_length, HI.out.2.2.1]; omega) (fun e => (HI.out.2.2.2.2.1.1 e).1) ((lv_rw HI.out.2.2.2.2.1).below (HV.out.b.trans (HB.out.mono (Nat.le_of_lt HV.out.x.lt)))) (bvals_one leaf) (by omega) (by omega) HB.out.size ?_
          intro A1 c1 x15 O1 hB1 hG1
          have Pp := Lib.hid (Pp.out.grownT hG1 L.out.rowTy (by decide))
          rw [Nat.zero_add, List.nil_append] at O1
          have L2 := Lib.hid O1
          clear L O1
          have L := L2
          clear L2
          have hSof := HB.out.trans hB1
          have HB2 := Lib.hid hSof
          clear HB hB1 hG1
          have HB := HB2
          clear HB2
          go_wp2_with fail
          have hsx15 := Lib.hid (show Sof (some V) x15 from hSof)
          refine hK2.out _ _ hsx15.out ?_
          clear hK2 K2 hSof
          refine sv_fork (fun K2 hK2 => ?_) ?_
          · simp only [pickM]
            refine wpList_appWG 67 25 (.agg (u8s (zer 32))) 32 32 Tryd.underlying67 info25 rfl (by decide) rfl (.tmp 21) (.tmp 23) rfl V.heap.size (some ⟨x1.heap.size, 0, none⟩) 0 0 [] rfl Pp.out P k pc (hcell ps) rfl (by rw [hcell_length ps HI.out.2.2.2.2.2.2.1, HI.out.2.2.2.2.2.1]; omega) HI.out.2.2.2.2.2.2.2.2 (HI.out.2.2.2.2.2.2.2.1.below (HV.out.b.trans (HB.out.mono (Nat.le_of_lt HV.out.x.lt)))) (hcell_one ps) (by omega) (by omega) HB.out.size ?_
            intro P1 c2 x16 O1 hB1 hG1
            have L := Lib.hid (L.out.grownT hG1 Pp.out.rowTy (by decide))
            rw [Nat.zero_add, List.nil_append] at O1
            have Pp2 := Lib.hid O1
            clear Pp O1
            have Pp := Pp2
            clear Pp2
            have hSof := HB.out.trans hB1
            have HB2 := Lib.hid hSof
            clear HB hB1 hG1
            have HB := HB2
            clear HB2
            go_wp2_with fail
            have hsx16 := Lib.hid (show Sof (some V) x16 from hSof)
            refine hK2.out _ _ hsx16.out ?_
            clear hK2 K2 hSof
            refine sv_look fun K0 hK0 => ?_
            simp only [pickM]
            go_wp2_with fail
            refine hK0.out _ ?_
            clear hK0 K0
            refine sv_act fun K2 hK2 => ?_
            simp only [pickM]
            go_wp2_with fail
            obtain ⟨x17, hx⟩ : ∃ X, X = World.alloc x16 (.cells z87 87) := ⟨_, rfl⟩
            rw [← hx]
            have hBelow : Below x16.heap.size x16 x17 := by rw [hx]; exact (Below.refl _ _).alloc (Nat.le_refl _) _
            have L := Lib.hid (L.out.below' hBelow)
            have Pp := Lib.hid (Pp.out.below' hBelow)
            have X := Lib.hid (show Blk x17 x16.heap.size 87 z87 by rw [hx]; exact Blk.new x16 87 _)
            have hXle : V.heap.size ≤ x16.heap.size := HB.out.size
            have HB2 := Lib.hid (HB.out.trans (hBelow.mono HB.out.size))
            clear HB hx
            have HB := HB2
            clear HB2
            go_wp2_with fail
            have hsx17 := Lib.hid (show Sof (some x16) x17 from hBelow)
            refine hK2.out _ _ hsx17.out ?_
            clear hK2 K2 hBelow
            refine sv_last fun K2 hK2 => ?_
            simp only [pickM]
            have s1 := store87_run X.out (by rfl) (clC_size root HI.out.1 n i (.slice A1 la c1) (.slice P1 k c2)) (clC_one root n i A1 P1 la c1 k c2)
            go_wp2_with fail
            obtain ⟨x18, hx⟩ : ∃ X, X = World.setRow x17 (x16.heap.size) (clC root n i (.slice A1 la c1) (.slice P1 k c2)) := ⟨_, rfl⟩
            rw [← hx]
            have hlt : V.heap.size ≤ x16.heap.size := hXle
            have MM := Lib.hid (show ChSt w x18 V.heap.size (x16.heap.size) kd aa bb root n i A1 la c1 leaf P1 k k c2 ps from ⟨by rw [hx]; exact ((HV.out.step HB.out).c).farRow (by have := HV.out.le; omega) _, by rw [hx]; exact ((HV.out.step HB.out).r).farRow (by have := HV.out.le; omega) _, by rw [hx]; exact X.out.setRow _, by rw [hx]; exact L.out.rowT X.out (by decide) _, by rw [hx]; exact Pp.out.rowT X.out (by decide) _, by rw [hx]; exact below_setRow' ((HV.out.step HB.out).b) (by have := HV.out.le; omega) _, by have := HV.out.le; omega, by have := HV.out.le; omega⟩)
            have hsz9 := Lib.hid (show V.heap.size ≤ x18.heap.size by rw [hx]; simpa using HB.out.size)
            clear hx s1 X L Pp HB
            go_wp2_with fail
            refine hK2.out _ _ ?_
            clear hK2 K2
            change Exit.then _ _ _ _ _
            go_wp2_with fail
            go_meet
            exact ⟨_, c1, c2, A1, P1, rfl, hVW.out ▸ MM.out, hVW.out ▸ hsz9.out⟩
          · refine sv_act fun K2 hK2 => ?_
            simp only [pickM]
            go_wp2_with fail
            obtain ⟨x19, hx⟩ : ∃ X, X = World.alloc x15 (.cells z87 87) := ⟨_, rfl⟩
            rw [← hx]
            have hBelow : Below x15.heap.size x15 x19 := by rw [hx]; exact (Below.refl _ _).alloc (Nat.le_refl _) _
            have L := Lib.hid (L.out.below' hBelow)
            have Pp := Lib.hid (Pp.out.below' hBelow)
            have X := Lib.hid (show Blk x19 x15.heap.size 87 z87 by rw [hx]; exact Blk.new x15 87 _)
            have hXle : V.heap.size ≤ x15.heap.size := HB.out.size
            have HB2 := Lib.hid (HB.out.trans (hBelow.mono HB.out.size))
            clear HB hx
            have HB := HB2
            clear HB2
            go_wp2_with fail
            have hsx19 := Lib.hid (Sof.step hsx15.out hBelow)
            refine hK2.out _ _ hsx19.out ?_
            clear hK2 K2 hBelow
            refine sv_act fun K2 hK2 => ?_
            simp only [pickM]
            refine wpList_appWG 67 25 (.agg (u8s (zer 32))) 32 32 Tryd.underlying67 info25 rfl (by decide) rfl (.tmp 21) (.tmp 23) rfl V.heap.size (some ⟨x1.heap.size, 0, none⟩) 0 0 [] rfl Pp.out P k pc (hcell ps) rfl (by rw [hcell_length ps HI.out.2.2.2.2.2.2.1, HI.out.2.2.2.2.2.1]; omega) HI.out.2.2.2.2.2.2.2.2 (HI.out.2.2.2.2.2.2.2.1.below (HV.out.b.trans (HB.out.mono (Nat.le_of_lt HV.out.x.lt)))) (hcell_one ps) (by omega) (by omega) HB.out.size ?_
            intro P1 c2 x20 O1 hB1 hG1
            have L := Lib.hid (L.out.grownT hG1 Pp.out.rowTy (by decide))
            have X := Lib.hid (X.out.grownT hG1 Pp.out.rowTy (by decide))
            rw [Nat.zero_add, List.nil_append] at O1
            have Pp2 := Lib.hid O1
            clear Pp O1
            have Pp := Pp2
            clear Pp2
            have hSof := HB.out.trans hB1
            have HB2 := Lib.hid hSof
            clear HB hB1 hG1
            have HB := HB2
            clear HB2
            go_wp2_with fail
            have hsx20 := Lib.hid (show Sof (some V) x20 from hSof)
            refine hK2.out _ _ hsx20.out ?_
            clear hK2 K2 hSof
            refine sv_look fun K0 hK0 => ?_
            simp only [pickM]
            go_wp2_with fail
            refine hK0.out _ ?_
            clear hK0 K0
            refine sv_last fun K2 hK2 => ?_
            simp only [pickM]
            have s1 := store87_run X.out (by rfl) (clC_size root HI.out.1 n i (.slice A1 la c1) (.slice P1 k c2)) (clC_one root n i A1 P1 la c1 k c2)
            go_wp2_with fail
            obtain ⟨x21, hx⟩ : ∃ X, X = World.setRow x20 (x15.heap.size) (clC root n i (.slice A1 la c1) (.slice P1 k c2)) := ⟨_, rfl⟩
            rw [← hx]
            have hlt : V.heap.size ≤ x15.heap.size := hXle
            have MM := Lib.hid (show ChSt w x21 V.heap.size (x15.heap.size) kd aa bb root n i A1 la c1 leaf P1 k k c2 ps from ⟨by rw [hx]; exact ((HV.out.step HB.out).c).farRow (by have := HV.out.le; omega) _, by rw [hx]; exact ((HV.out.step HB.out).r).farRow (by have := HV.out.le; omega) _, by rw [hx]; exact X.out.setRow _, by rw [hx]; exact L.out.rowT X.out (by decide) _, by rw [hx]; exact Pp.out.rowT X.out (by decide) _, by rw [hx]; exact below_setRow' ((HV.out.step HB.out).b) (by have := HV.out.le; omega) _, by have := HV.out.le; omega, by have := HV.out.le; omega⟩)
            have hsz9 := Lib.hid (show V.heap.size ≤ x21.heap.size by rw [hx]; simpa using HB.out.size)
            clear hx s1 X L Pp HB
            go_wp2_with fail
            refine hK2.out _ _ ?_
            clear hK2 K2
            change Exit.then _ _ _ _ _
            go_wp2_with fail
            go_meet
            exact ⟨_, c1, c2, A1, P1, rfl, hVW.out ▸ MM.out, hVW.out ▸ hsz9.out⟩
        · refine sv_act fun K2 hK2 => ?_
          simp only [pickM]
          go_wp2_with fail
          obtain ⟨x22, hx⟩ : ∃ X, X = World.alloc x14 (.cells z87 87) := ⟨_, rfl⟩
          rw [← hx]
          have hBelow : Below x14.heap.size x14 x22 := by rw [hx]; exact (Below.refl _ _).alloc (Nat.le_refl _) _
          have L := Lib.hid (L.out.below' hBelow)
          have Pp := Lib.hid (Pp.out.below' hBelow)
          have X := Lib.hid (show Blk x22 x14.heap.size 87 z87 by rw [hx]; exact Blk.new x14 87 _)
          have hXle : V.heap.size ≤ x14.heap.size := HB.out.size
          have HB2 := Lib.hid (HB.out.trans (hBelow.mono HB.out.size))
          clear HB hx
          have HB := HB2
          clear HB2
          go_wp2_with fail
          have hsx22 := Lib.hid (Sof.step hsx14.out hBelow)
          refine hK2.out _ _ hsx22.out ?_
          clear hK2 K2 hBelow
          refine sv_act fun K2 hK2 => ?_
          simp only [pickM]
          refine wpList_appWG 22 5 (.int .u8 0) 1 1 Tryd.underlying22 info5 rfl (by decide) rfl (.tmp 17) (.tmp 19) rfl V.heap.size (some ⟨V.heap.size, 0, none⟩) 0 0 [] rfl L.out A la ca (bvals leaf) rfl (by rw [bvals_length, HI.out.2.2.1]; omega) (fun e => (HI.out.2.2.2.2.1.1 e).1) ((lv_rw HI.out.2.2.2.2.1).below (HV.out.b.trans (HB.out.mono (Nat.le_of_lt HV.out.x.lt)))) (bvals_one leaf) (by omega) (by omega) HB.out.size ?_
          intro A1 c1 x23 O1 hB1 hG1
          have Pp := Lib.hid (Pp.out.grownT hG1 L.out.rowTy (by decide))
          have X := Lib.hid (X.out.grownT hG1 L.out.rowTy (by decide))
          rw [Nat.zero_add, List.nil_append] at O1
          have L2 := Lib.hid O1
          clear L O1
          have L := L2
          clear L2
          have hSof := HB.out.trans hB1
          have HB2 := Lib.hid hSof
          clear HB hB1 hG1
          have HB := HB2
          clear HB2
          go_wp2_with fail
          have hsx23 := Lib.hid (show Sof (some V) x23 from hSof)
          refine hK2.out _ _ hsx23.out ?_
          clear hK2 K2 hSof
          refine sv_act fun K2 hK2 => ?_
          simp only [pickM]
          refine wpList_appWG 67 25 (.agg (u8s (zer 32))) 32 32 Tryd.underlying67 info25 rfl (by decide) rfl (.tmp 21) (.tmp 23) rfl V.heap.size (some ⟨x1.heap.size, 0, none⟩) 0 0 [] rfl Pp.out P k pc (hcell ps) rfl (by rw [hcell_length ps HI.out.2.2.2.2.2.2.1, HI.out.2.2.2.2.2.1]; omega) HI.out.2.2.2.2.2.2.2.2 (HI.out.2.2.2.2.2.2.2.1.below (HV.out.b.trans (HB.out.mono (Nat.le_of_lt HV.out.x.lt)))) (hcell_one ps) (by omega) (by omega) HB.out.size ?_
          intro P1 c2 x24 O1 hB1 hG1
          have L := Lib.hid (L.out.grownT hG1 Pp.out.rowTy (by decide))
          have X := Lib.hid (X.out.grownT hG1 Pp.out.rowTy (by decide))
          rw [Nat.zero_add, List.nil_append] at O1
          have Pp2 := Lib.hid O1
          clear Pp O1
          have Pp := Pp2
          clear Pp2
          have hSof := HB.out.trans hB1
          have HB2 := Lib.hid hSof
          clear HB hB1 hG1
          have HB := HB2
          clear HB2
          go_wp2_with fail
          have hsx24 := Lib.hid (show Sof (some V) x24 from hSof)
          refine hK2.out _ _ hsx24.out ?_
          clear hK2 K2 hSof
          refine sv_look fun K0 hK0 => ?_
          simp only [pickM]
          go_wp2_with fail
          refine hK0.out _ ?_
          clear hK0 K0
          refine sv_last fun K2 hK2 => ?_
          simp only [pickM]
          have s1 := store87_run X.out (by rfl) (clC_size root HI.out.1 n i (.slice A1 la c1) (.slice P1 k c2)) (clC_one root n i A1 P1 la c1 k c2)
          go_wp2_with fail
          obtain ⟨x25, hx⟩ : ∃ X, X = World.setRow x24 (x14.heap.size) (clC root n i (.slice A1 la c1) (.slice P1 k c2)) := ⟨_, rfl⟩
          rw [← hx]
          have hlt : V.heap.size ≤ x14.heap.size := hXle
          have MM := Lib.hid (show ChSt w x25 V.heap.size (x14.heap.size) kd aa bb root n i A1 la c1 leaf P1 k k c2 ps from ⟨by rw [hx]; exact ((HV.out.step HB.out).c).farRow (by have := HV.out.le; omega) _, by rw [hx]; exact ((HV.out.step HB.out).r).farRow (by have := HV.out.le; omega) _, by rw [hx]; exact X.out.setRow _, by rw [hx]; exact L.out.rowT X.out (by decide) _, by rw [hx]; exact Pp.out.rowT X.out (by decide) _, by rw [hx]; exact below_setRow' ((HV.out.step HB.out).b) (by have := HV.out.le; omega) _, by have := HV.out.le; omega, by have := HV.out.le; omega⟩)
          have hsz9 := Lib.hid (show V.heap.size ≤ x25.heap.size by rw [hx]; simpa using HB.out.size)
          clear hx s1 X L Pp HB
          go_wp2_with fail
          refine hK2.out _ _ ?_
          clear hK2 K2
          change Exit.then _ _ _ _ _
          go_wp2_with fail
          go_meet
          exact ⟨_, c1, c2, A1, P1, rfl, hVW.out ▸ MM.out, hVW.out ▸ hsz9.out⟩
      · refine sv_act fun K2 hK2 => ?_
        simp only [pickM]
        go_wp2_with fail
        obtain ⟨x26, hx⟩ : ∃ X, X = World.alloc x1 (.cells z87 87) := ⟨_, rfl⟩
        rw [← hx]
        have hBelow : Below x1.heap.size x1 x26 := by rw [hx]; exact (Below.refl _ _).alloc (Nat.le_refl _) _
        have L := Lib.hid (L.out.below' hBelow)
        have X := Lib.hid (show Blk x26 x1.heap.size 87 z87 by rw [hx]; exact Blk.new x1 87 _)
        have hXle : V.heap.size ≤ x1.heap.size := HB.out.size
        have HB2 := Lib.hid (HB.out.trans (hBelow.mono HB.out.size))
        clear HB hx
        have HB := HB2
        clear HB2
        go_wp2_with fail
        have hsx26 := Lib.hid (Sof.step hsx1.out hBelow)
        refine hK2.out _ _ hsx26.out ?_
        clear hK2 K2 hBelow
        refine sv_fork (fun K2 hK2 => ?_) ?_
        · simp only [pickM]
          refine wpList_appWG 22 5 (.int .u8 0) 1 1 Tryd.underlying22 info5 rfl (by decide) rfl (.tmp 17) (.tmp 19) rfl V.heap.size (some ⟨V.heap.size, 0, none⟩) 0 0 [] rfl L.out A la ca (bvals leaf) rfl (by rw [bvals_length, HI.out.2.2.1]; omega) (fun e => (HI.out.2.2.2.2.1.1 e).1) ((lv_rw HI.out.2.2.2.2.1).below (HV.out.b.trans (HB.out.mono (Nat.le_of_lt HV.out.x.lt)))) (bvals_one leaf) (by omega) (by omega) HB.out.size ?_
          intro A1 c1 x27 O1 hB1 hG1
          have X := Lib.hid (X.out.grownT hG1 L.out.rowTy (by decide))
          rw [Nat.zero_add, List.nil_append] at O1
          have L2 := Lib.hid O1
          clear L O1
          have L := L2
          clear L2
          have hSof := HB.out.trans hB1
          have HB2 := Lib.hid hSof
          clear HB hB1 hG1
          have HB := HB2
          clear HB2
          go_wp2_with fail
          have hsx27 := Lib.hid (show Sof (some V) x27 from hSof)
          refine hK2.out _ _ hsx27.out ?_
          clear hK2 K2 hSof
          refine sv_act fun K2 hK2 => ?_
          simp only [pickM]
          go_wp2_with fail
          obtain ⟨x28, hx⟩ : ∃ X, X = World.alloc x27 (.cells #[] 25) := ⟨_, rfl⟩
          rw [← hx]
          have hBelow : Below x27.heap.size x27 x28 := by rw [hx]; exact (Below.refl _ _).alloc (Nat.le_refl _) _
          have L := Lib.hid (L.out.below' hBelow)
          have X := Lib.hid (X.out.below hBelow X.out.lt)
          have Pp := Lib.hid (show OW x28 V.heap.size 25 32 (some ⟨x27.heap.size, 0, none⟩) 0 0 [] by rw [hx]; exact World.ownsRow_made x27 #[] 0 HB.out.size (by decide) rfl)
          have HB2 := Lib.hid (HB.out.trans (hBelow.mono HB.out.size))
          clear HB hx
          have HB := HB2
          clear HB2
          go_wp2_with fail
          have hsx28 := Lib.hid (Sof.step hsx27.out hBelow)
          refine hK2.out _ _ hsx28.out ?_
          clear hK2 K2 hBelow
          refine sv_act fun K2 hK2 => ?_
          simp only [pickM]
          refine wpList_appWG 67 25 (.agg (u8s (zer 32))) 32 32 Tryd.underlying67 info25 rfl (by decide) rfl (.tmp 21) (.tmp 23) rfl V.heap.size (some ⟨x27.heap.size, 0, none⟩) 0 0 [] rfl Pp.out P k pc (hcell ps) rfl (by rw [hcell_length ps HI.out.2.2.2.2.2.2.1, HI.out.2.2.2.2.2.1]; omega) HI.out.2.2.2.2.2.2.2.2 (HI.out.2.2.2.2.2.2.2.1.below (HV.out.b.trans (HB.out.mono (Nat.le_of_lt HV.out.x.lt)))) (hcell_one ps) (by omega) (by omega) HB.out.size ?_
          intro P1 c2 x29 O1 hB1 hG1
          have L := Lib.hid (L.out.grownT hG1 Pp.out.rowTy (by decide))
          have X := Lib.hid (X.out.grownT hG1 Pp.out.rowTy (by decide))
          rw [Nat.zero_add, List.nil_append] at O1
          have Pp2 := Lib.hid O1
          clear Pp O1
          have Pp := Pp2
          clear Pp2
          have hSof := HB.out.trans hB1
          have HB2 := Lib.hid hSof
          clear HB hB1 hG1
          have HB := HB2
          clear HB2
          go_wp2_with fail
          have hsx29 := Lib.hid (show Sof (some V) x29 from hSof)
          refine hK2.out _ _ hsx29.out ?_
          clear hK2 K2 hSof
          refine sv_look fun K0 hK0 => ?_
          simp only [pickM]
          go_wp2_with fail
          refine hK0.out _ ?_
          clear hK0 K0
          refine sv_last fun K2 hK2 => ?_
          simp only [pickM]
          have s1 := store87_run X.out (by rfl) (clC_size root HI.out.1 n i (.slice A1 la c1) (.slice P1 k c2)) (clC_one root n i A1 P1 la c1 k c2)
          go_wp2_with fail
          obtain ⟨x30, hx⟩ : ∃ X, X = World.setRow x29 (x1.heap.size) (clC root n i (.slice A1 la c1) (.slice P1 k c2)) := ⟨_, rfl⟩
          rw [← hx]
          have hlt : V.heap.size ≤ x1.heap.size := hXle
          have MM := Lib.hid (show ChSt w x30 V.heap.size (x1.heap.size) kd aa bb root n i A1 la c1 leaf P1 k k c2 ps from ⟨by rw [hx]; exact ((HV.out.step HB.out).c).farRow (by have := HV.out.le; omega) _, by rw [hx]; exact ((HV.out.step HB.out).r).farRow (by have := HV.out.le; omega) _, by rw [hx]; exact X.out.setRow _, by rw [hx]; exact L.out.rowT X.out (by decide) _, by rw [hx]; exact Pp.out.rowT X.out (by decide) _, by rw [hx]; exact below_setRow' ((HV.out.step HB.out).b) (by have := HV.out.le; omega) _, by have := HV.out.le; omega, by have := HV.out.le; omega⟩)
          have hsz9 := Lib.hid (show V.heap.size ≤ x30.heap.size by rw [hx]; simpa using HB.out.size)
          clear hx s1 X L Pp HB
          go_wp2_with fail
          refine hK2.out _ _ ?_
          clear hK2 K2
          change Exit.then _ _ _ _ _
          go_wp2_with fail
          go_meet
          exact ⟨_, c1, c2, A1, P1, rfl, hVW.out ▸ MM.out, hVW.out ▸ hsz9.out⟩
        · refine sv_act fun K2 hK2 => ?_
          simp only [pickM]
          go_wp2_with fail
          obtain ⟨x31, hx⟩ : ∃ X, X = World.alloc x26 (.cells #[] 25) := ⟨_, rfl⟩
          rw [← hx]
          have hBelow : Below x26.heap.size x26 x31 := by rw [hx]; exact (Below.refl _ _).alloc (Nat.le_refl _) _
          have L := Lib.hid (L.out.below' hBelow)
          have X := Lib.hid (X.out.below hBelow X.out.lt)
          have Pp := Lib.hid (show OW x31 V.heap.size 25 32 (some ⟨x26.heap.size, 0, none⟩) 0 0 [] by rw [hx]; exact World.ownsRow_made x26 #[] 0 HB.out.size (by decide) rfl)
          have HB2 := Lib.hid (HB.out.trans (hBelow.mono HB.out.size))
          clear HB hx
          have HB := HB2
          clear HB2
          go_wp2_with fail
          have hsx31 := Lib.hid (Sof.step hsx26.out hBelow)
          refine hK2.out _ _ hsx31.out ?_
          clear hK2 K2 hBelow
          refine sv_act fun K2 hK2 => ?_
          simp only [pickM]
          refine wpList_appWG 22 5 (.int .u8 0) 1 1 Tryd.underlying22 info5 rfl (by decide) rfl (.tmp 17) (.tmp 19) rfl V.heap.size (some ⟨V.heap.size, 0, none⟩) 0 0 [] rfl L.out A la ca (bvals leaf) rfl (by rw [bvals_length, HI.out.2.2.1]; omega) (fun e => (HI.out.2.2.2.2.1.1 e).1) ((lv_rw HI.out.2.2.2.2.1).below (HV.out.b.trans (HB.out.mono (Nat.le_of_lt HV.out.x.lt)))) (bvals_one leaf) (by omega) (by omega) HB.out.size ?_
          intro A1 c1 x32 O1 hB1 hG1
          have Pp := Lib.hid (Pp.out.grownT hG1 L.out.rowTy (by decide))
          have X := Lib.hid (X.out.grownT hG1 L.out.rowTy (by decide))
          rw [Nat.zero_add, List.nil_append] at O1
          have L2 := Lib.hid O1
          clear L O1
          have L := L2
          clear L2
          have hSof := HB.out.trans hB1
          have HB2 := Lib.hid hSof
          clear HB hB1 hG1
          have HB := HB2
          clear HB2
          go_wp2_with fail
          have hsx32 := Lib.hid (show Sof (some V) x32 from hSof)
          refine hK2.out _ _ hsx32.out ?_
          clear hK2 K2 hSof
          refine sv_act fun K2 hK2 => ?_
          simp only [pickM]
          refine wpList_appWG 67 25 (.agg (u8s (zer 32))) 32 32 Tryd.underlying67 info25 rfl (by decide) rfl (.tmp 21) (.tmp 23) rfl V.heap.size (some ⟨x26.heap.size, 0, none⟩) 0 0 [] rfl Pp.out P k pc (hcell ps) rfl (by rw [hcell_length ps HI.out.2.2.2.2.2.2.1, HI.out.2.2.2.2.2.1]; omega) HI.out.2.2.2.2.2.2.2.2 (HI.out.2.2.2.2.2.2.2.1.below (HV.out.b.trans (HB.out.mono (Nat.le_of_lt HV.out.x.lt)))) (hcell_one ps) (by omega) (by omega) HB.out.size ?_
          intro P1 c2 x33 O1 hB1 hG1
          have L := Lib.hid (L.out.grownT hG1 Pp.out.rowTy (by decide))
          have X := Lib.hid (X.out.grownT hG1 Pp.out.rowTy (by decide))
          rw [Nat.zero_add, List.nil_append] at O1
          have Pp2 := Lib.hid O1
          clear Pp O1
          have Pp := Pp2
          clear Pp2
          have hSof := HB.out.trans hB1
          have HB2 := Lib.hid hSof
          clear HB hB1 hG1
          have HB := HB2
          clear HB2
          go_wp2_with fail
          have hsx33 := Lib.hid (show Sof (some V) x33 from hSof)
          refine hK2.out _ _ hsx33.out ?_
          clear hK2 K2 hSof
          refine sv_look fun K0 hK0 => ?_
          simp only [pickM]
          go_wp2_with fail
          refine hK0.out _ ?_
          clear hK0 K0
          refine sv_last fun K2 hK2 => ?_
          simp only [pickM]
          have s1 := store87_run X.out (by rfl) (clC_size root HI.out.1 n i (.slice A1 la c1) (.slice P1 k c2)) (clC_one root n i A1 P1 la c1 k c2)
          go_wp2_with fail
          obtain ⟨x34, hx⟩ : ∃ X, X = World.setRow x33 (x1.heap.size) (clC root n i (.slice A1 la c1) (.slice P1 k c2)) := ⟨_, rfl⟩
          rw [← hx]
          have hlt : V.heap.size ≤ x1.heap.size := hXle
          have MM := Lib.hid (show ChSt w x34 V.heap.size (x1.heap.size) kd aa bb root n i A1 la c1 leaf P1 k k c2 ps from ⟨by rw [hx]; exact ((HV.out.step HB.out).c).farRow (by have := HV.out.le; omega) _, by rw [hx]; exact ((HV.out.step HB.out).r).farRow (by have := HV.out.le; omega) _, by rw [hx]; exact X.out.setRow _, by rw [hx]; exact L.out.rowT X.out (by decide) _, by rw [hx]; exact Pp.out.rowT X.out (by decide) _, by rw [hx]; exact below_setRow' ((HV.out.step HB.out).b) (by have := HV.out.le; omega) _, by have := HV.out.le; omega, by have := HV.out.le; omega⟩)
          have hsz9 := Lib.hid (show V.heap.size ≤ x34.heap.size by rw [hx]; simpa using HB.out.size)
          clear hx s1 X L Pp HB
          go_wp2_with fail
          refine hK2.out _ _ ?_
          clear hK2 K2
          change Exit.then _ _ _ _ _
          go_wp2_with fail
          go_meet
          exact ⟨_, c1, c2, A1, P1, rfl, hVW.out ▸ MM.out, hVW.out ▸ hsz9.out⟩
    refine sv_fork (fun K2 hK2 => ?_) ?_
    · simp only [pickM]
      go_wp2_with fail
      obtain ⟨x35, hx⟩ : ∃ X, X = World.alloc V (.cells #[] 25) := ⟨_, rfl⟩
      rw [← hx]
      have hBelow : Below V.heap.size V x35 := by rw [hx]; exact (Below.refl _ _).alloc (Nat.le_refl _) _
      have Pp := Lib.hid (show OW x35 V.heap.size 25 32 (some ⟨V.heap.size, 0, none⟩) 0 0 [] by rw [hx]; exact World.ownsRow_made V #[] 0 HB.out.size (by decide) rfl)
      have HB2 := Lib.hid (HB.out.trans (hBelow.mono HB.out.size))
      clear HB hx
      have HB := HB2
      clear HB2
      go_wp2_with fail
      have hsx35 := Lib.hid (show Sof (some V) x35 from hBelow)
      refine hK2.out _ _ hsx35.out ?_
      clear hK2 K2 hBelow
      refine sv_fork (fun K2 hK2 => ?_) ?_
      · simp only [pickM]
        go_wp2_with fail
        obtain ⟨x36, hx⟩ : ∃ X, X = World.alloc x35 (.cells #[] 5) := ⟨_, rfl⟩
        rw [← hx]
        have hBelow : Below x35.heap.size x35 x36 := by rw [hx]; exact (Below.refl _ _).alloc (Nat.le_refl _) _
        have Pp := Lib.hid (Pp.out.below' hBelow)
        have L := Lib.hid (show OW x36 V.heap.size 5 1 (some ⟨x35.heap.size, 0, none⟩) 0 0 [] by rw [hx]; exact World.ownsRow_made x35 #[] 0 HB.out.size (by decide) rfl)
        have HB2 := Lib.hid (HB.out.trans (hBelow.mono HB.out.size))
        clear HB hx
        have HB := HB2
        clear HB2
        go_wp2_with fail
        have hsx36 := Lib.hid (Sof.step hsx35.out hBelow)
        refine hK2.out _ _ hsx36.out ?_
        clear hK2 K2 hBelow
        refine sv_fork (fun K2 hK2 => ?_) ?_
        · simp only [pickM]
          refine wpList_appWG 22 5 (.int .u8 0) 1 1 Tryd.underlying22 info5 rfl (by decide) rfl (.tmp 17) (.tmp 19) rfl V.heap.size (some ⟨x35.heap.size, 0, none⟩) 0 0 [] rfl L.out A la ca (bvals leaf) rfl (by rw [bvals_length, HI.out.2.2.1]; omega) (fun e => (HI.out.2.2.2.2.1.1 e).1) ((lv_rw HI.out.2.2.2.2.1).below (HV.out.b.trans (HB.out.mono (Nat.le_of_lt HV.out.x.lt)))) (bvals_one leaf) (by omega) (by omega) HB.out.size ?_
          intro A1 c1 x37 O1 hB1 hG1
          have Pp := Lib.hid (Pp.out.grownT hG1 L.out.rowTy (by decide))
          rw [Nat.zero_add, List.nil_append] at O1
          have L2 := Lib.hid O1
          clear L O1
          have L := L2
          clear L2
          have hSof := HB.out.trans hB1
          have HB2 := Lib.hid hSof
          clear HB hB1 hG1
          have HB := HB2
          clear HB2
          go_wp2_with fail
          have hsx37 := Lib.hid (show Sof (some V) x37 from hSof)
          refine hK2.out _ _ hsx37.out ?_
          clear hK2 K2 hSof
          refine sv_fork (fun K2 hK2 => ?_) ?_
          · simp only [pickM]
            refine wpList_appWG 67 25 (.agg (u8s (zer 32))) 32 32 Tryd.underlying67 info25 rfl (by decide) rfl (.tmp 21) (.tmp 23) rfl V.heap.size (some ⟨V.heap.size, 0, none⟩) 0 0 [] rfl Pp.out P k pc (hcell ps) rfl (by rw [hcell_length ps HI.out.2.2.2.2.2.2.1, HI.out.2.2.2.2.2.1]; omega) HI.out.2.2.2.2.2.2.2.2 (HI.out.2.2.2.2.2.2.2.1.below (HV.out.b.trans (HB.out.mono (Nat.le_of_lt HV.out.x.lt)))) (hcell_one ps) (by omega) (by omega) HB.out.size ?_
            intro P1 c2 x38 O1 hB1 hG1
            have L := Lib.hid (L.out.grownT hG1 Pp.out.rowTy (by decide))
            rw [Nat.zero_add, List.nil_append] at O1
            have Pp2 := Lib.hid O1
            clear Pp O1
            have Pp := Pp2
            clear Pp2
            have hSof := HB.out.trans hB1
            have HB2 := Lib.hid hSof
            clear HB hB1 hG1
            have HB := HB2
            clear HB2
            go_wp2_with fail
            have hsx38 := Lib.hid (show Sof (some V) x38 from hSof)
            refine hK2.out _ _ hsx38.out ?_
            clear hK2 K2 hSof
            refine sv_look fun K0 hK0 => ?_
            simp only [pickM]
            go_wp2_with fail
            refine hK0.out _ ?_
            clear hK0 K0
            refine sv_act fun K2 hK2 => ?_
            simp only [pickM]
            go_wp2_with fail
            obtain ⟨x39, hx⟩ : ∃ X, X = World.alloc x38 (.cells z87 87) := ⟨_, rfl⟩
            rw [← hx]
            have hBelow : Below x38.heap.size x38 x39 := by rw [hx]; exact (Below.refl _ _).alloc (Nat.le_refl _) _
            have L := Lib.hid (L.out.below' hBelow)
            have Pp := Lib.hid (Pp.out.below' hBelow)
            have X := Lib.hid (show Blk x39 x38.heap.size 87 z87 by rw [hx]; exact Blk.new x38 87 _)
            have hXle : V.heap.size ≤ x38.heap.size := HB.out.size
            have HB2 := Lib.hid (HB.out.trans (hBelow.mono HB.out.size))
            clear HB hx
            have HB := HB2
            clear HB2
            go_wp2_with fail
            have hsx39 := Lib.hid (show Sof (some x38) x39 from hBelow)
            refine hK2.out _ _ hsx39.out ?_
            clear hK2 K2 hBelow
            refine sv_last fun K2 hK2 => ?_
            simp only [pickM]
            have s1 := store87_run X.out (by rfl) (clC_size root HI.out.1 n i (.slice A1 la c1) (.slice P1 k c2)) (clC_one root n i A1 P1 la c1 k c2)
            go_wp2_with fail
            obtain ⟨x40, hx⟩ : ∃ X, X = World.setRow x39 (x38.heap.size) (clC root n i (.slice A1 la c1) (.slice P1 k c2)) := ⟨_, rfl⟩
            rw [← hx]
            have hlt : V.heap.size ≤ x38.heap.size := hXle
            have MM := Lib.hid (show ChSt w x40 V.heap.size (x38.heap.size) kd aa bb root n i A1 la c1 leaf P1 k k c2 ps from ⟨by rw [hx]; exact ((HV.out.step HB.out).c).farRow (by have := HV.out.le; omega) _, by rw [hx]; exact ((HV.out.step HB.out).r).farRow (by have := HV.out.le; omega) _, by rw [hx]; exact X.out.setRow _, by rw [hx]; exact L.out.rowT X.out (by decide) _, by rw [hx]; exact Pp.out.rowT X.out (by decide) _, by rw [hx]; exact below_setRow' ((HV.out.step HB.out).b) (by have := HV.out.le; omega) _, by have := HV.out.le; omega, by have := HV.out.le; omega⟩)
            have hsz9 := Lib.hid (show V.heap.size ≤ x40.heap.size by rw [hx]; simpa using HB.out.size)
            clear hx s1 X L Pp HB
            go_wp2_with fail
            refine hK2.out _ _ ?_
            clear hK2 K2
            change Exit.then _ _ _ _ _
            go_wp2_with fail
            go_meet
            exact ⟨_, c1, c2, A1, P1, rfl, hVW.out ▸ MM.out, hVW.out ▸ hsz9.out⟩
          · refine sv_act fun K2 hK2 => ?_
            simp only [pickM]
            go_wp2_with fail
            obtain ⟨x41, hx⟩ : ∃ X, X = World.alloc x37 (.cells z87 87) := ⟨_, rfl⟩
            rw [← hx]
            have hBelow : Below x37.heap.size x37 x41 := by rw [hx]; exact (Below.refl _ _).alloc (Nat.le_refl _) _
            have L := Lib.hid (L.out.below' hBelow)
            have Pp := Lib.hid (Pp.out.below' hBelow)
            have X := Lib.hid (show Blk x41 x37.heap.size 87 z87 by rw [hx]; exact Blk.new x37 87 _)
            have hXle : V.heap.size ≤ x37.heap.size := HB.out.size
            have HB2 := Lib.hid (HB.out.trans (hBelow.mono HB.out.size))
            clear HB hx
            have HB := HB2
            clear HB2
            go_wp2_with fail
            have hsx41 := Lib.hid (Sof.step hsx37.out hBelow)
            refine hK2.out _ _ hsx41.out ?_
            clear hK2 K2 hBelow
            refine sv_act fun K2 hK2 => ?_
            simp only [pickM]
            refine wpList_appWG 67 25 (.agg (u8s (zer 32))) 32 32 Tryd.underlying67 info25 rfl (by decide) rfl (.tmp 21) (.tmp 23) rfl V.heap.size (some ⟨V.heap.size, 0, none⟩) 0 0 [] rfl Pp.out P k pc (hcell ps) rfl (by rw [hcell_length ps HI.out.2.2.2.2.2.2.1, HI.out.2.2.2.2.2.1]; omega) HI.out.2.2.2.2.2.2.2.2 (HI.out.2.2.2.2.2.2.2.1.below (HV.out.b.trans (HB.out.mono (Nat.le_of_lt HV.out.x.lt)))) (hcell_one ps) (by omega) (by omega) HB.out.size ?_
            intro P1 c2 x42 O1 hB1 hG1
            have L := Lib.hid (L.out.grownT hG1 Pp.out.rowTy (by decide))
            have X := Lib.hid (X.out.grownT hG1 Pp.out.rowTy (by decide))
            rw [Nat.zero_add, List.nil_append] at O1
            have Pp2 := Lib.hid O1
            clear Pp O1
            have Pp := Pp2
            clear Pp2
            have hSof := HB.out.trans hB1
            have HB2 := Lib.hid hSof
            clear HB hB1 hG1
            have HB := HB2
            clear HB2
            go_wp2_with fail
            have hsx42 := Lib.hid (show Sof (some V) x42 from hSof)
            refine hK2.out _ _ hsx42.out ?_
            clear hK2 K2 hSof
            refine sv_look fun K0 hK0 => ?_
            simp only [pickM]
            go_wp2_with fail
            refine hK0.out _ ?_
            clear hK0 K0
            refine sv_last fun K2 hK2 => ?_
            simp only [pickM]
            have s1 := store87_run X.out (by rfl) (clC_size root HI.out.1 n i (.slice A1 la c1) (.slice P1 k c2)) (clC_one root n i A1 P1 la c1 k c2)
            go_wp2_with fail
            obtain ⟨x43, hx⟩ : ∃ X, X = World.setRow x42 (x37.heap.size) (clC root n i (.slice A1 la c1) (.slice P1 k c2)) := ⟨_, rfl⟩
            rw [← hx]
            have hlt : V.heap.size ≤ x37.heap.size := hXle
            have MM := Lib.hid (show ChSt w x43 V.heap.size (x37.heap.size) kd aa bb root n i A1 la c1 leaf P1 k k c2 ps from ⟨by rw [hx]; exact ((HV.out.step HB.out).c).farRow (by have := HV.out.le; omega) _, by rw [hx]; exact ((HV.out.step HB.out).r).farRow (by have := HV.out.le; omega) _, by rw [hx]; exact X.out.setRow _, by rw [hx]; exact L.out.rowT X.out (by decide) _, by rw [hx]; exact Pp.out.rowT X.out (by decide) _, by rw [hx]; exact below_setRow' ((HV.out.step HB.out).b) (by have := HV.out.le; omega) _, by have := HV.out.le; omega, by have := HV.out.le; omega⟩)
            have hsz9 := Lib.hid (show V.heap.size ≤ x43.heap.size by rw [hx]; simpa using HB.out.size)
            clear hx s1 X L Pp HB
            go_wp2_with fail
            refine hK2.out _ _ ?_
            clear hK2 K2
            change Exit.then _ _ _ _ _
            go_wp2_with fail
            go_meet
            exact ⟨_, c1, c2, A1, P1, rfl, hVW.out ▸ MM.out, hVW.out ▸ hsz9.out⟩
        · refine sv_act fun K2 hK2 => ?_
          simp only [pickM]
          go_wp2_with fail
          obtain ⟨x44, hx⟩ : ∃ X, X = World.alloc x36 (.cells z87 87) := ⟨_, rfl⟩
          rw [← hx]
          have hBelow : Below x36.heap.size x36 x44 := by rw [hx]; exact (Below.refl _ _).alloc (Nat.le_refl _) _
          have L := Lib.hid (L.out.below' hBelow)
          have Pp := Lib.hid (Pp.out.below' hBelow)
          have X := Lib.hid (show Blk x44 x36.heap.size 87 z87 by rw [hx]; exact Blk.new x36 87 _)
          have hXle : V.heap.size ≤ x36.heap.size := HB.out.size
          have HB2 := Lib.hid (HB.out.trans (hBelow.mono HB.out.size))
          clear HB hx
          have HB := HB2
          clear HB2
          go_wp2_with fail
          have hsx44 := Lib.hid (Sof.step hsx36.out hBelow)
          refine hK2.out _ _ hsx44.out ?_
          clear hK2 K2 hBelow
          refine sv_act fun K2 hK2 => ?_
          simp only [pickM]
          refine wpList_appWG 22 5 (.int .u8 0) 1 1 Tryd.underlying22 info5 rfl (by decide) rfl (.tmp 17) (.tmp 19) rfl V.heap.size (some ⟨x35.heap.size, 0, none⟩) 0 0 [] rfl L.out A la ca (bvals leaf) rfl (by rw [bvals_length, HI.out.2.2.1]; omega) (fun e => (HI.out.2.2.2.2.1.1 e).1) ((lv_rw HI.out.2.2.2.2.1).below (HV.out.b.trans (HB.out.mono (Nat.le_of_lt HV.out.x.lt)))) (bvals_one leaf) (by omega) (by omega) HB.out.size ?_
          intro A1 c1 x45 O1 hB1 hG1
          have Pp := Lib.hid (Pp.out.grownT hG1 L.out.rowTy (by decide))
          have X := Lib.hid (X.out.grownT hG1 L.out.rowTy (by decide))
          rw [Nat.zero_add, List.nil_append] at O1
          have L2 := Lib.hid O1
          clear L O1
          have L := L2
          clear L2
          have hSof := HB.out.trans hB1
          have HB2 := Lib.hid hSof
          clear HB hB1 hG1
          have HB := HB2
          clear HB2
          go_wp2_with fail
          have hsx45 := Lib.hid (show Sof (some V) x45 from hSof)
          refine hK2.out _ _ hsx45.out ?_
          clear hK2 K2 hSof
          refine sv_act fun K2 hK2 => ?_
          simp only [pickM]
          refine wpList_appWG 67 25 (.agg (u8s (zer 32))) 32 32 Tryd.underlying67 info25 rfl (by decide) rfl (.tmp 21) (.tmp 23) rfl V.heap.size (some ⟨V.heap.size, 0, none⟩) 0 0 [] rfl Pp.out P k pc (hcell ps) rfl (by rw [hcell_length ps HI.out.2.2.2.2.2.2.1, HI.out.2.2.2.2.2.1]; omega) HI.out.2.2.2.2.2.2.2.2 (HI.out.2.2.2.2.2.2.2.1.below (HV.out.b.trans (HB.out.mono (Nat.le_of_lt HV.out.x.lt)))) (hcell_one ps) (by omega) (by omega) HB.out.size ?_
          intro P1 c2 x46 O1 hB1 hG1
          have L := Lib.hid (L.out.grownT hG1 Pp.out.rowTy (by decide))
          have X := Lib.hid (X.out.grownT hG1 Pp.out.rowTy (by decide))
          rw [Nat.zero_add, List.nil_append] at O1
          have Pp2 := Lib.hid O1
          clear Pp O1
          have Pp := Pp2
          clear Pp2
          have hSof := HB.out.trans hB1
          have HB2 := Lib.hid hSof
          clear HB hB1 hG1
          have HB := HB2
          clear HB2
          go_wp2_with fail
          have hsx46 := Lib.hid (show Sof (some V) x46 from hSof)
          refine hK2.out _ _ hsx46.out ?_
          clear hK2 K2 hSof
          refine sv_look fun K0 hK0 => ?_
          simp only [pickM]
          go_wp2_with fail
          refine hK0.out _ ?_
          clear hK0 K0
          refine sv_last fun K2 hK2 => ?_
          simp only [pickM]
          have s1 := store87_run X.out (by rfl) (clC_size root HI.out.1 n i (.slice A1 la c1) (.slice P1 k c2)) (clC_one root n i A1 P1 la c1 k c2)
          go_wp2_with fail
          obtain ⟨x47, hx⟩ : ∃ X, X = World.setRow x46 (x36.heap.size) (clC root n i (.slice A1 la c1) (.slice P1 k c2)) := ⟨_, rfl⟩
          rw [← hx]
          have hlt : V.heap.size ≤ x36.heap.size := hXle
          have MM := Lib.hid (show ChSt w x47 V.heap.size (x36.heap.size) kd aa bb root n i A1 la c1 leaf P1 k k c2 ps from ⟨by rw [hx]; exact ((HV.out.step HB.out).c).farRow (by have := HV.out.le; omega) _, by rw [hx]; exact ((HV.out.step HB.out).r).farRow (by have := HV.out.le; omega) _, by rw [hx]; exact X.out.setRow _, by rw [hx]; exact L.out.rowT X.out (by decide) _, by rw [hx]; exact Pp.out.rowT X.out (by decide) _, by rw [hx]; exact below_setRow' ((HV.out.step HB.out).b) (by have := HV.out.le; omega) _, by have := HV.out.le; omega, by have := HV.out.le; omega⟩)
          have hsz9 := Lib.hid (show V.heap.size ≤ x47.heap.size by rw [hx]; simpa using HB.out.size)
          clear hx s1 X L Pp HB
          go_wp2_with fail
          refine hK2.out _ _ ?_
          clear hK2 K2
          change Exit.then _ _ _ _ _
          go_wp2_with fail
          go_meet
          exact ⟨_, c1, c2, A1, P1, rfl, hVW.out ▸ MM.out, hVW.out ▸ hsz9.out⟩
      · refine sv_act fun K2 hK2 => ?_
        simp only [pickM]
        go_wp2_with fail
        obtain ⟨x48, hx⟩ : ∃ X, X = World.alloc x35 (.cells z87 87) := ⟨_, rfl⟩
        rw [← hx]
        have hBelow : Below x35.heap.size x35 x48 := by rw [hx]; exact (Below.refl _ _).alloc (Nat.le_refl _) _
        have Pp := Lib.hid (Pp.out.below' hBelow)
        have X := Lib.hid (show Blk x48 x35.heap.size 87 z87 by rw [hx]; exact Blk.new x35 87 _)
        have hXle : V.heap.size ≤ x35.heap.size := HB.out.size
        have HB2 := Lib.hid (HB.out.trans (hBelow.mono HB.out.size))
        clear HB hx
        have HB := HB2
        clear HB2
        go_wp2_with fail
        have hsx48 := Lib.hid (Sof.step hsx35.out hBelow)
        refine hK2.out _ _ hsx48.out ?_
        clear hK2 K2 hBelow
        refine sv_act fun K2 hK2 => ?_
        simp only [pickM]
        go_wp2_with fail
        obtain ⟨x49, hx⟩ : ∃ X, X = World.alloc x48 (.cells #[] 5) := ⟨_, rfl⟩
        rw [← hx]
        have hBelow : Below x48.heap.size x48 x49 := by rw [hx]; exact (Below.refl _ _).alloc (Nat.le_refl _) _
        have Pp := Lib.hid (Pp.out.below' hBelow)
        have X := Lib.hid (X.out.below hBelow X.out.lt)
        have L := Lib.hid (show OW x49 V.heap.size 5 1 (some ⟨x48.heap.size, 0, none⟩) 0 0 [] by rw [hx]; exact World.ownsRow_made x48 #[] 0 HB.out.size (by decide) rfl)
        have HB2 := Lib.hid (HB.out.trans (hBelow.mono HB.out.size))
        clear HB hx
        have HB := HB2
        clear HB2
        go_wp2_with fail
        have hsx49 := Lib.hid (Sof.step hsx48.out hBelow)
        refine hK2.out _ _ hsx49.out ?_
        clear hK2 K2 hBelow
        refine sv_act fun K2 hK2 => ?_
        simp only [pickM]
        refine wpList_appWG 22 5 (.int .u8 0) 1 1 Tryd.underlying22 info5 rfl (by decide) rfl (.tmp 17) (.tmp 19) rfl V.heap.size (some ⟨x48.heap.size, 0, none⟩) 0 0 [] rfl L.out A la ca (bvals leaf) rfl (by rw [bvals_length, HI.out.2.2.1]; omega) (fun e => (HI.out.2.2.2.2.1.1 e).1) ((lv_rw HI.out.2.2.2.2.1).below (HV.out.b.trans (HB.out.mono (Nat.le_of_lt HV.out.x.lt)))) (bvals_one leaf) (by omega) (by omega) HB.out.size ?_
        intro A1 c1 x50 O1 hB1 hG1
        have Pp := Lib.hid (Pp.out.grownT hG1 L.out.rowTy (by decide))
        have X := Lib.hid (X.out.grownT hG1 L.out.rowTy (by decide))
        rw [Nat.zero_add, List.nil_append] at O1
        have L2 := Lib.hid O1
        clear L O1
        have L := L2
        clear L2
        have hSof := HB.out.trans hB1
        have HB2 := Lib.hid hSof
        clear HB hB1 hG1
        have HB := HB2
        clear HB2
        go_wp2_with fail
        have hsx50 := Lib.hid (show Sof (some V) x50 from hSof)
        refine hK2.out _ _ hsx50.out ?_
        clear hK2 K2 hSof
        refine sv_act fun K2 hK2 => ?_
        simp only [pickM]
        refine wpList_appWG 67 25 (.agg (u8s (zer 32))) 32 32 Tryd.underlying67 info25 rfl (by decide) rfl (.tmp 21) (.tmp 23) rfl V.heap.size (some ⟨V.heap.size, 0, none⟩) 0 0 [] rfl Pp.out P k pc (hcell ps) rfl (by rw [hcell_length ps HI.out.2.2.2.2.2.2.1, HI.out.2.2.2.2.2.1]; omega) HI.out.2.2.2.2.2.2.2.2 (HI.out.2.2.2.2.2.2.2.1.below (HV.out.b.trans (HB.out.mono (Nat.le_of_lt HV.out.x.lt)))) (hcell_one ps) (by omega) (by omega) HB.out.size ?_
        intro P1 c2 x51 O1 hB1 hG1
        have L := Lib.hid (L.out.grownT hG1 Pp.out.rowTy (by decide))
        have X := Lib.hid (X.out.grownT hG1 Pp.out.rowTy (by decide))
        rw [Nat.zero_add, List.nil_append] at O1
        have Pp2 := Lib.hid O1
        clear Pp O1
        have Pp := Pp2
        clear Pp2
        have hSof := HB.out.trans hB1
        have HB2 := Lib.hid hSof
        clear HB hB1 hG1
        have HB := HB2
        clear HB2
        go_wp2_with fail
        have hsx51 := Lib.hid (show Sof (some V) x51 from hSof)
        refine hK2.out _ _ hsx51.out ?_
        clear hK2 K2 hSof
        refine sv_look fun K0 hK0 => ?_
        simp only [pickM]
        go_wp2_with fail
        refine hK0.out _ ?_
        clear hK0 K0
        refine sv_last fun K2 hK2 => ?_
        simp only [pickM]
        have s1 := store87_run X.out (by rfl) (clC_size root HI.out.1 n i (.slice A1 la c1) (.slice P1 k c2)) (clC_one root n i A1 P1 la c1 k c2)
        go_wp2_with fail
        obtain ⟨x52, hx⟩ : ∃ X, X = World.setRow x51 (x35.heap.size) (clC root n i (.slice A1 la c1) (.slice P1 k c2)) := ⟨_, rfl⟩
        rw [← hx]
        have hlt : V.heap.size ≤ x35.heap.size := hXle
        have MM := Lib.hid (show ChSt w x52 V.heap.size (x35.heap.size) kd aa bb root n i A1 la c1 leaf P1 k k c2 ps from ⟨by rw [hx]; exact ((HV.out.step HB.out).c).farRow (by have := HV.out.le; omega) _, by rw [hx]; exact ((HV.out.step HB.out).r).farRow (by have := HV.out.le; omega) _, by rw [hx]; exact X.out.setRow _, by rw [hx]; exact L.out.rowT X.out (by decide) _, by rw [hx]; exact Pp.out.rowT X.out (by decide) _, by rw [hx]; exact below_setRow' ((HV.out.step HB.out).b) (by have := HV.out.le; omega) _, by have := HV.out.le; omega, by have := HV.out.le; omega⟩)
        have hsz9 := Lib.hid (show V.heap.size ≤ x52.heap.size by rw [hx]; simpa using HB.out.size)
        clear hx s1 X L Pp HB
        go_wp2_with fail
        refine hK2.out _ _ ?_
        clear hK2 K2
        change Exit.then _ _ _ _ _
        go_wp2_with fail
        go_meet
        exact ⟨_, c1, c2, A1, P1, rfl, hVW.out ▸ MM.out, hVW.out ▸ hsz9.out⟩
    · refine sv_act fun K2 hK2 => ?_
      simp only [pickM]
      go_wp2_with fail
      obtain ⟨x53, hx⟩ : ∃ X, X = World.alloc V (.cells z87 87) := ⟨_, rfl⟩
      rw [← hx]
      have hBelow : Below V.heap.size V x53 := by rw [hx]; exact (Below.refl _ _).alloc (Nat.le_refl _) _
      have X := Lib.hid (show Blk x53 V.heap.size 87 z87 by rw [hx]; exact Blk.new V 87 _)
      have hXle : V.heap.size ≤ V.heap.size := HB.out.size
      have HB2 := Lib.hid (HB.out.trans (hBelow.mono HB.out.size))
      clear HB hx
      have HB := HB2
      clear HB2
      go_wp2_with fail
      have hsx53 := Lib.hid (show Sof (some V) x53 from hBelow)
      refine hK2.out _ _ hsx53.out ?_
      clear hK2 K2 hBelow
      refine sv_fork (fun K2 hK2 => ?_) ?_
      · simp only [pickM]
        go_wp2_with fail
        obtain ⟨x54, hx⟩ : ∃ X, X = World.alloc x53 (.cells #[] 5) := ⟨_, rfl⟩
        rw [← hx]
        have hBelow : Below x53.heap.size x53 x54 := by rw [hx]; exact (Below.refl _ _).alloc (Nat.le_refl _) _
        have X := Lib.hid (X.out.below hBelow X.out.lt)
        have L := Lib.hid (show OW x54 V.heap.size 5 1 (some ⟨x53.heap.size, 0, none⟩) 0 0 [] by rw [hx]; exact World.ownsRow_made x53 #[] 0 HB.out.size (by decide) rfl)
        have HB2 := Lib.hid (HB.out.trans (hBelow.mono HB.out.size))
        clear HB hx
        have HB := HB2
        clear HB2
        go_wp2_with fail
        have hsx54 := Lib.hid (Sof.step hsx53.out hBelow)
        refine hK2.out _ _ hsx54.out ?_
        clear hK2 K2 hBelow
        refine sv_fork (fun K2 hK2 => ?_) ?_
        · simp only [pickM]
          refine wpList_appWG 22 5 (.int .u8 0) 1 1 Tryd.underlying22 info5 rfl (by decide) rfl (.tmp 17) (.tmp 19) rfl V.heap.size (some ⟨x53.heap.size, 0, none⟩) 0 0 [] rfl L.out A la ca (bvals leaf) rfl (by rw [bvals_length, HI.out.2.2.1]; omega) (fun e => (HI.out.2.2.2.2.1.1 e).1) ((lv_rw HI.out.2.2.2.2.1).below (HV.out.b.trans (HB.out.mono (Nat.le_of_lt HV.out.x.lt)))) (bvals_one leaf) (by omega) (by omega) HB.out.size ?_
          intro A1 c1 x55 O1 hB1 hG1
          have X := Lib.hid (X.out.grownT hG1 L.out.rowTy (by decide))
          rw [Nat.zero_add, List.nil_append] at O1
          have L2 := Lib.hid O1
          clear L O1
          have L := L2
          clear L2
          have hSof := HB.out.trans hB1
          have HB2 := Lib.hid hSof
          clear HB hB1 hG1
          have HB := HB2
          clear HB2
          go_wp2_with fail
          have hsx55 := Lib.hid (show Sof (some V) x55 from hSof)
          refine hK2.out _ _ hsx55.out ?_
          clear hK2 K2 hSof
          refine sv_act fun K2 hK2 => ?_
          simp only [pickM]
          go_wp2_with fail
          obtain ⟨x56, hx⟩ : ∃ X, X = World.alloc x55 (.cells #[] 25) := ⟨_, rfl⟩
          rw [← hx]
          have hBelow : Below x55.heap.size x55 x56 := by rw [hx]; exact (Below.refl _ _).alloc (Nat.le_refl _) _
          have L := Lib.hid (L.out.below' hBelow)
          have X := Lib.hid (X.out.below hBelow X.out.lt)
          have Pp := Lib.hid (show OW x56 V.heap.size 25 32 (some ⟨x55.heap.size, 0, none⟩) 0 0 [] by rw [hx]; exact World.ownsRow_made x55 #[] 0 HB.out.size (by decide) rfl)
          have HB2 := Lib.hid (HB.out.trans (hBelow.mono HB.out.size))
          clear HB hx
          have HB := HB2
          clear HB2
          go_wp2_with fail
          have hsx56 := Lib.hid (Sof.step hsx55.out hBelow)
          refine hK2.out _ _ hsx56.out ?_
          clear hK2 K2 hBelow
          refine sv_act fun K2 hK2 => ?_
          simp only [pickM]
          refine wpList_appWG 67 25 (.agg (u8s (zer 32))) 32 32 Tryd.underlying67 info25 rfl (by decide) rfl (.tmp 21) (.tmp 23) rfl V.heap.size (some ⟨x55.heap.size, 0, none⟩) 0 0 [] rfl Pp.out P k pc (hcell ps) rfl (by rw [hcell_length ps HI.out.2.2.2.2.2.2.1, HI.out.2.2.2.2.2.1]; omega) HI.out.2.2.2.2.2.2.2.2 (HI.out.2.2.2.2.2.2.2.1.below (HV.out.b.trans (HB.out.mono (Nat.le_of_lt HV.out.x.lt)))) (hcell_one ps) (by omega) (by omega) HB.out.size ?_
          intro P1 c2 x57 O1 hB1 hG1
          have L := Lib.hid (L.out.grownT hG1 Pp.out.rowTy (by decide))
          have X := Lib.hid (X.out.grownT hG1 Pp.out.rowTy (by decide))
          rw [Nat.zero_add, List.nil_append] at O1
          have Pp2 := Lib.hid O1
          clear Pp O1
          have Pp := Pp2
          clear Pp2
          have hSof := HB.out.trans hB1
          have HB2 := Lib.hid hSof
          clear HB hB1 hG1
          have HB := HB2
          clear HB2
          go_wp2_with fail
          have hsx57 := Lib.hid (show Sof (some V) x57 from hSof)
          refine hK2.out _ _ hsx57.out ?_
          clear hK2 K2 hSof
          refine sv_look fun K0 hK0 => ?_
          simp only [pickM]
          go_wp2_with fail
          refine hK0.out _ ?_
          clear hK0 K0
          refine sv_last fun K2 hK2 => ?_
          simp only [pickM]
          have s1 := store87_run X.out (by rfl) (clC_size root HI.out.1 n i (.slice A1 la c1) (.slice P1 k c2)) (clC_one root n i A1 P1 la c1 k c2)
          go_wp2_with fail
          obtain ⟨x58, hx⟩ : ∃ X, X = World.setRow x57 (V.heap.size) (clC root n i (.slice A1 la c1) (.slice P1 k c2)) := ⟨_, rfl⟩
          rw [← hx]
          have hlt : V.heap.size ≤ V.heap.size := hXle
          have MM := Lib.hid (show ChSt w x58 V.heap.size (V.heap.size) kd aa bb root n i A1 la c1 leaf P1 k k c2 ps from ⟨by rw [hx]; exact ((HV.out.step HB.out).c).farRow (by have := HV.out.le; omega) _, by rw [hx]; exact ((HV.out.step HB.out).r).farRow (by have := HV.out.le; omega) _, by rw [hx]; exact X.out.setRow _, by rw [hx]; exact L.out.rowT X.out (by decide) _, by rw [hx]; exact Pp.out.rowT X.out (by decide) _, by rw [hx]; exact below_setRow' ((HV.out.step HB.out).b) (by have := HV.out.le; omega) _, by have := HV.out.le; omega, by have := HV.out.le; omega⟩)
          have hsz9 := Lib.hid (show V.heap.size ≤ x58.heap.size by rw [hx]; simpa using HB.out.size)
          clear hx s1 X L Pp HB
          go_wp2_with fail
          refine hK2.out _ _ ?_
          clear hK2 K2
          change Exit.then _ _ _ _ _
          go_wp2_with fail
          go_meet
          exact ⟨_, c1, c2, A1, P1, rfl, hVW.out ▸ MM.out, hVW.out ▸ hsz9.out⟩
        · refine sv_act fun K2 hK2 => ?_
          simp only [pickM]
          go_wp2_with fail
          obtain ⟨x59, hx⟩ : ∃ X, X = World.alloc x54 (.cells #[] 25) := ⟨_, rfl⟩
          rw [← hx]
          have hBelow : Below x54.heap.size x54 x59 := by rw [hx]; exact (Below.refl _ _).alloc (Nat.le_refl _) _
          have L := Lib.hid (L.out.below' hBelow)
          have X := Lib.hid (X.out.below hBelow X.out.lt)
          have Pp := Lib.hid (show OW x59 V.heap.size 25 32 (some ⟨x54.heap.size, 0, none⟩) 0 0 [] by rw [hx]; exact World.ownsRow_made x54 #[] 0 HB.out.size (by decide) rfl)
          have HB2 := Lib.hid (HB.out.trans (hBelow.mono HB.out.size))
          clear HB hx
          have HB := HB2
          clear HB2
          go_wp2_with fail
          have hsx59 := Lib.hid (Sof.step hsx54.out hBelow)
          refine hK2.out _ _ hsx59.out ?_
          clear hK2 K2 hBelow
          refine sv_act fun K2 hK2 => ?_
          simp only [pickM]
          refine wpList_appWG 22 5 (.int .u8 0) 1 1 Tryd.underlying22 info5 rfl (by decide) rfl (.tmp 17) (.tmp 19) rfl V.heap.size (some ⟨x53.heap.size, 0, none⟩) 0 0 [] rfl L.out A la ca (bvals leaf) rfl (by rw [bvals_length, HI.out.2.2.1]; omega) (fun e => (HI.out.2.2.2.2.1.1 e).1) ((lv_rw HI.out.2.2.2.2.1).below (HV.out.b.trans (HB.out.mono (Nat.le_of_lt HV.out.x.lt)))) (bvals_one leaf) (by omega) (by omega) HB.out.size ?_
          intro A1 c1 x60 O1 hB1 hG1
          have Pp := Lib.hid (Pp.out.grownT hG1 L.out.rowTy (by decide))
          have X := Lib.hid (X.out.grownT hG1 L.out.rowTy (by decide))
          rw [Nat.zero_add, List.nil_append] at O1
          have L2 := Lib.hid O1
          clear L O1
          have L := L2
          clear L2
          have hSof := HB.out.trans hB1
          have HB2 := Lib.hid hSof
          clear HB hB1 hG1
          have HB := HB2
          clear HB2
          go_wp2_with fail
          have hsx60 := Lib.hid (show Sof (some V) x60 from hSof)
          refine hK2.out _ _ hsx60.out ?_
          clear hK2 K2 hSof
          refine sv_act fun K2 hK2 => ?_
          simp only [pickM]
          refine wpList_appWG 67 25 (.agg (u8s (zer 32))) 32 32 Tryd.underlying67 info25 rfl (by decide) rfl (.tmp 21) (.tmp 23) rfl V.heap.size (some ⟨x54.heap.size, 0, none⟩) 0 0 [] rfl Pp.out P k pc (hcell ps) rfl (by rw [hcell_length ps HI.out.2.2.2.2.2.2.1, HI.out.2.2.2.2.2.1]; omega) HI.out.2.2.2.2.2.2.2.2 (HI.out.2.2.2.2.2.2.2.1.below (HV.out.b.trans (HB.out.mono (Nat.le_of_lt HV.out.x.lt)))) (hcell_one ps) (by omega) (by omega) HB.out.size ?_
          intro P1 c2 x61 O1 hB1 hG1
          have L := Lib.hid (L.out.grownT hG1 Pp.out.rowTy (by decide))
          have X := Lib.hid (X.out.grownT hG1 Pp.out.rowTy (by decide))
          rw [Nat.zero_add, List.nil_append] at O1
          have Pp2 := Lib.hid O1
          clear Pp O1
          have Pp := Pp2
          clear Pp2
          have hSof := HB.out.trans hB1
          have HB2 := Lib.hid hSof
          clear HB hB1 hG1
          have HB := HB2
          clear HB2
          go_wp2_with fail
          have hsx61 := Lib.hid (show Sof (some V) x61 from hSof)
          refine hK2.out _ _ hsx61.out ?_
          clear hK2 K2 hSof
          refine sv_look fun K0 hK0 => ?_
          simp only [pickM]
          go_wp2_with fail
          refine hK0.out _ ?_
          clear hK0 K0
          refine sv_last fun K2 hK2 => ?_
          simp only [pickM]
          have s1 := store87_run X.out (by rfl) (clC_size root HI.out.1 n i (.slice A1 la c1) (.slice P1 k c2)) (clC_one root n i A1 P1 la c1 k c2)
          go_wp2_with fail
          obtain ⟨x62, hx⟩ : ∃ X, X = World.setRow x61 (V.heap.size) (clC root n i (.slice A1 la c1) (.slice P1 k c2)) := ⟨_, rfl⟩
          rw [← hx]
          have hlt : V.heap.size ≤ V.heap.size := hXle
          have MM := Lib.hid (show ChSt w x62 V.heap.size (V.heap.size) kd aa bb root n i A1 la c1 leaf P1 k k c2 ps from ⟨by rw [hx]; exact ((HV.out.step HB.out).c).farRow (by have := HV.out.le; omega) _, by rw [hx]; exact ((HV.out.step HB.out).r).farRow (by have := HV.out.le; omega) _, by rw [hx]; exact X.out.setRow _, by rw [hx]; exact L.out.rowT X.out (by decide) _, by rw [hx]; exact Pp.out.rowT X.out (by decide) _, by rw [hx]; exact below_setRow' ((HV.out.step HB.out).b) (by have := HV.out.le; omega) _, by have := HV.out.le; omega, by have := HV.out.le; omega⟩)
          have hsz9 := Lib.hid (show V.heap.size ≤ x62.heap.size by rw [hx]; simpa using HB.out.size)
          clear hx s1 X L Pp HB
          go_wp2_with fail
          refine hK2.out _ _ ?_
          clear hK2 K2
          change Exit.then _ _ _ _ _
          go_wp2_with fail
          go_meet
          exact ⟨_, c1, c2, A1, P1, rfl, hVW.out ▸ MM.out, hVW.out ▸ hsz9.out⟩
      · refine sv_act fun K2 hK2 => ?_
        simp only [pickM]
        go_wp2_with fail
        obtain ⟨x63, hx⟩ : ∃ X, X = World.alloc x53 (.cells #[] 25) := ⟨_, rfl⟩
        rw [← hx]
        have hBelow : Below x53.heap.size x53 x63 := by rw [hx]; exact (Below.refl _ _).alloc (Nat.le_refl _) _
        have X := Lib.hid (X.out.below hBelow X.out.lt)
        have Pp := Lib.hid (show OW x63 V.heap.size 25 32 (some ⟨x53.heap.size, 0, none⟩) 0 0 [] by rw [hx]; exact World.ownsRow_made x53 #[] 0 HB.out.size (by decide) rfl)
        have HB2 := Lib.hid (HB.out.trans (hBelow.mono HB.out.size))
        clear HB hx
        have HB := HB2
        clear HB2
        go_wp2_with fail
        have hsx63 := Lib.hid (Sof.step hsx53.out hBelow)
        refine hK2.out _ _ hsx63.out ?_
        clear hK2 K2 hBelow
        refine sv_act fun K2 hK2 => ?_
        simp only [pickM]
        go_wp2_with fail
        obtain ⟨x64, hx⟩ : ∃ X, X = World.alloc x63 (.cells #[] 5) := ⟨_, rfl⟩
        rw [← hx]
        have hBelow : Below x63.heap.size x63 x64 := by rw [hx]; exact (Below.refl _ _).alloc (Nat.le_refl _) _
        have Pp := Lib.hid (Pp.out.below' hBelow)
        have X := Lib.hid (X.out.below hBelow X.out.lt)
        have L := Lib.hid (show OW x64 V.heap.size 5 1 (some ⟨x63.heap.size, 0, none⟩) 0 0 [] by rw [hx]; exact World.ownsRow_made x63 #[] 0 HB.out.size (by decide) rfl)
        have HB2 := Lib.hid (HB.out.trans (hBelow.mono HB.out.size))
        clear HB hx
        have HB := HB2
        clear HB2
        go_wp2_with fail
        have hsx64 := Lib.hid (Sof.step hsx63.out hBelow)
        refine hK2.out _ _ hsx64.out ?_
        clear hK2 K2 hBelow
        refine sv_act fun K2 hK2 => ?_
        simp only [pickM]
        refine wpList_appWG 22 5 (.int .u8 0) 1 1 Tryd.underlying22 info5 rfl (by decide) rfl (.tmp 17) (.tmp 19) rfl V.heap.size (some ⟨x63.heap.size, 0, none⟩) 0 0 [] rfl L.out A la ca (bvals leaf) rfl (by rw [bvals_length, HI.out.2.2.1]; omega) (fun e => (HI.out.2.2.2.2.1.1 e).1) ((lv_rw HI.out.2.2.2.2.1).below (HV.out.b.trans (HB.out.mono (Nat.le_of_lt HV.out.x.lt)))) (bvals_one leaf) (by omega) (by omega) HB.out.size ?_
        intro A1 c1 x65 O1 hB1 hG1
        have Pp := Lib.hid (Pp.out.grownT hG1 L.out.rowTy (by decide))
        have X := Lib.hid (X.out.grownT hG1 L.out.rowTy (by decide))
        rw [Nat.zero_add, List.nil_append] at O1
        have L2 := Lib.hid O1
        clear L O1
        have L := L2
        clear L2
        have hSof := HB.out.trans hB1
        have HB2 := Lib.hid hSof
        clear HB hB1 hG1
        have HB := HB2
        clear HB2
        go_wp2_with fail
        have hsx65 := Lib.hid (show Sof (some V) x65 from hSof)
        refine hK2.out _ _ hsx65.out ?_
        clear hK2 K2 hSof
        refine sv_act fun K2 hK2 => ?_
        simp only [pickM]
        refine wpList_appWG 67 25 (.agg (u8s (zer 32))) 32 32 Tryd.underlying67 info25 rfl (by decide) rfl (.tmp 21) (.tmp 23) rfl V.heap.size (some ⟨x53.heap.size, 0, none⟩) 0 0 [] rfl Pp.out P k pc (hcell ps) rfl (by rw [hcell_length ps HI.out.2.2.2.2.2.2.1, HI.out.2.2.2.2.2.1]; omega) HI.out.2.2.2.2.2.2.2.2 (HI.out.2.2.2.2.2.2.2.1.below (HV.out.b.trans (HB.out.mono (Nat.le_of_lt HV.out.x.lt)))) (hcell_one ps) (by omega) (by omega) HB.out.size ?_
        intro P1 c2 x66 O1 hB1 hG1
        have L := Lib.hid (L.out.grownT hG1 Pp.out.rowTy (by decide))
        have X := Lib.hid (X.out.grownT hG1 Pp.out.rowTy (by decide))
        rw [Nat.zero_add, List.nil_append] at O1
        have Pp2 := Lib.hid O1
        clear Pp O1
        have Pp := Pp2
        clear Pp2
        have hSof := HB.out.trans hB1
        have HB2 := Lib.hid hSof
        clear HB hB1 hG1
        have HB := HB2
        clear HB2
        go_wp2_with fail
        have hsx66 := Lib.hid (show Sof (some V) x66 from hSof)
        refine hK2.out _ _ hsx66.out ?_
        clear hK2 K2 hSof
        refine sv_look fun K0 hK0 => ?_
        simp only [pickM]
        go_wp2_with fail
        refine hK0.out _ ?_
        clear hK0 K0
        refine sv_last fun K2 hK2 => ?_
        simp only [pickM]
        have s1 := store87_run X.out (by rfl) (clC_size root HI.out.1 n i (.slice A1 la c1) (.slice P1 k c2)) (clC_one root n i A1 P1 la c1 k c2)
        go_wp2_with fail
        obtain ⟨x67, hx⟩ : ∃ X, X = World.setRow x66 (V.heap.size) (clC root n i (.slice A1 la c1) (.slice P1 k c2)) := ⟨_, rfl⟩
        rw [← hx]
        have hlt : V.heap.size ≤ V.heap.size := hXle
        have MM := Lib.hid (show ChSt w x67 V.heap.size (V.heap.size) kd aa bb root n i A1 la c1 leaf P1 k k c2 ps from ⟨by rw [hx]; exact ((HV.out.step HB.out).c).farRow (by have := HV.out.le; omega) _, by rw [hx]; exact ((HV.out.step HB.out).r).farRow (by have := HV.out.le; omega) _, by rw [hx]; exact X.out.setRow _, by rw [hx]; exact L.out.rowT X.out (by decide) _, by rw [hx]; exact Pp.out.rowT X.out (by decide) _, by rw [hx]; exact below_setRow' ((HV.out.step HB.out).b) (by have := HV.out.le; omega) _, by have := HV.out.le; omega, by have := HV.out.le; omega⟩)
        have hsz9 := Lib.hid (show V.heap.size ≤ x67.heap.size by rw [hx]; simpa using HB.out.size)
        clear hx s1 X L Pp HB
        go_wp2_with fail
        refine hK2.out _ _ ?_
        clear hK2 K2
        change Exit.then _ _ _ _ _
        go_wp2_with fail
        go_meet
        exact ⟨_, c1, c2, A1, P1, rfl, hVW.out ▸ MM.out, hVW.out ▸ hsz9.out⟩
  case rest =>
  obtain ⟨g6, c1, c2, A1, P1, rfl, M0, hbs0⟩ := hcut
  clear HV0
  have hbase : w.heap.size + 1 + 1 < W.heap.size := M0.hb
  have hg6 := M0.hg
  have M := Lib.hid M0
  clear M0
  generalize W.heap.size = base at *
  have k0 := M.out.c.cell 0
  have k1 := M.out.c.cell 1
  simp only [List.getElem?_toArray, List.getElem?_cons_zero, List.getElem?_cons_succ] at k0 k1
  have f32 := (M.out.x.cell 32).trans (clC_32 root HI.out.1 n i _ _)
  have f33 := (M.out.x.cell 33).trans (clC_33 root HI.out.1 n i _ _)
  have f34 := (M.out.x.cell 34).trans (clC_34 root HI.out.1 n i (.slice A1 la c1) (.slice P1 k c2))
  have f35 := (M.out.x.cell 35).trans (clC_35 root HI.out.1 n i (.slice A1 la c1) (.slice P1 k c2))
  have fz := M.out.x.frozen
  have hm8 : kd % 8 = 0 ∨ kd % 8 = 1 ∨ kd % 8 = 2 ∨ kd % 8 = 3 ∨ kd % 8 = 4 ∨ kd % 8 = 5 ∨ kd % 8 = 6 ∨ kd % 8 = 7 := by omega
  rcases hm8 with h8 | h8 | h8 | h8 | h8 | h8 | h8 | h8
  · have e8 : (kd : Int) % 8 = 0 := by omega
    clear h8
    by_cases h0 : la = 0
    · subst h0
      have F := M
      have l9 := load87_run F.out.x HI.out.1
      have s9 := store87_run F.out.r (by rfl) (clC_size _ HI.out.1 _ _ _ _) (clC_one root n i A1 P1 0 c1 k c2)
      go_wp2_with fail
      exact cl_ret (p := 4) F.out rfl rfl rfl HI.out.1 HI.out.2.1 HI.out.2.2.1 (by omega) HI.out.2.2.2.1 HI.out.2.2.2.2.2.1 (by omega) (by omega) HI.out.2.2.2.2.2.2.1
    · obtain ⟨ga, rfl, hga, hga2⟩ := M.out.l.some_ (by omega)
      have t0 : (0 : Int) < (la : Int) := by omega
      obtain ⟨j, hj, ej⟩ := idx_mod aa la (by omega)
      have hcj := M.out.l.at1 (bvals_at leaf j (by rw [HI.out.2.2.1]; exact hj))
      have hfj := M.out.l.free j
      obtain ⟨cur, fr, hbk⟩ := M.out.l.block
      have HBk := Lib.hid hbk
      clear hbk
      obtain ⟨x, hx, ex⟩ := xor_byte (leaf.getD j 0) b (byte_at HI.out.2.2.2.1 j) hb2
      generalize leaf.getD j 0 = y0 at hcj ex
      go_upto_region 8 with (fail)
      refine wp_region_sego [0, 0, 0, 0, 0, 0, 0, 0, 0, 0, 0, 0, 0, 0, 1] [true] (by kernel_rfl) (by kernel_rfl) (fun _ _ d _ _ h => by cases d <;> exact h) (sego_last fun K0 hK0 => ?_)
      simp only [pickC, ↓reduceIte, Nat.reduceEqDiff, Nat.reduceAdd]
      go_wp2_with fail
      refine hK0.out _ (sego_do fun K2 hK2 => ?_)
      clear hK0 K0
      simp only [pickC, ↓reduceIte, Nat.reduceEqDiff, Nat.reduceAdd]
      go_wp2_with fail
      have F := Lib.hid (show ChSt w (wc.setCell ⟨ga, j, none⟩ (.int .u8 (x : Int))).drew base g6 kd aa bb root n i (some ⟨ga, 0, none⟩) la c1 (leaf.set j x) P1 k k c2 ps from ⟨M.out.c.far (by show w.heap.size + 1 ≠ ga; omega) _, M.out.r.far (by show w.heap.size + 1 + 1 ≠ ga; omega) _, M.out.x.far (M.out.x.neT HBk.out (by decide)) _, by have := M.out.l.setAny j (.int .u8 (x : Int)); rwa [bvals_set] at this, M.out.p.cellT HBk.out (by decide) j _, (M.out.b.setCell (by show w.heap.size ≤ ga; omega) _).drew, M.out.hg, M.out.hb⟩)
      have l9 := load87_run F.out.x HI.out.1
      have s9 := store87_run F.out.r (by rfl) (clC_size _ HI.out.1 _ _ _ _) (clC_one root n i (some ⟨ga, 0, none⟩) P1 la c1 k c2)
      go_wp2_with fail
      refine hK2.out _ _ (sego_end fun K0 hK0 => ?_)
      clear hK2 K2
      simp only [pickC, ↓reduceIte, Nat.reduceEqDiff, Nat.reduceAdd]
      go_wp2_with fail
      refine hK0.out _ ?_
      clear hK0 K0
      go_wp2_with fail
      exact cl_ret (p := 4) F.out rfl rfl rfl HI.out.1 HI.out.2.1 (show (leaf.set j x).length = la by rw [List.length_set]; exact HI.out.2.2.1) (by omega) (bytes_set HI.out.2.2.2.1 j x hx) HI.out.2.2.2.2.2.1 (by omega) (by omega) HI.out.2.2.2.2.2.2.1
  · have e8 : (kd : Int) % 8 = 1 := by omega
    clear h8
    by_cases h0 : k = 0
    · subst h0
      have F := M
      have l9 := load87_run F.out.x HI.out.1
      have s9 := store87_run F.out.r (by rfl) (clC_size _ HI.out.1 _ _ _ _) (clC_one root n i A1 P1 la c1 0 c2)
      go_wp2_with fail
      exact cl_ret (p := 4) F.out rfl rfl rfl HI.out.1 HI.out.2.1 HI.out.2.2.1 (by omega) HI.out.2.2.2.1 HI.out.2.2.2.2.2.1 (by omega) (by omega) HI.out.2.2.2.2.2.2.1
    · obtain ⟨gp, rfl, hgp, hgp2⟩ := M.out.p.some_ (by omega)
      have t0 : (0 : Int) < (k : Int) := by omega
      obtain ⟨p, hp, ep⟩ := idx_mod aa k (by omega)
      obtain ⟨q, hq, eq⟩ : ∃ q : Nat, q < 32 ∧ (aa : Int) % 32 = q := idx_mod aa 32 (by omega)
      have hdp := digs_at HI.out.2.2.2.2.2.2.1 (k := p) (by rw [HI.out.2.2.2.2.2.1]; exact hp)
      have hcj := ow_at M.out.p (hcell_get ps HI.out.2.2.2.2.2.2.1 p q _ (by rw [HI.out.2.2.2.2.2.1]; exact hp) (bvals_at (ps.getD p []) q (by rw [hdp.1]; exact hq)))
      have hfj := M.out.p.free (p * 32 + q)
      obtain ⟨cur, fr, hbk⟩ := M.out.p.block
      have HBk := Lib.hid hbk
      clear hbk
      obtain ⟨x, hx, ex⟩ := xor_byte ((ps.getD p []).getD q 0) b (byte_at hdp.2 q) hb2
      generalize (ps.getD p []).getD q 0 = y0 at hcj ex
      have HD := Lib.hid hdp
      clear hdp
      go_upto_region 11 with (fail)
      refine wp_region_sego [0, 0, 0, 0, 0, 0, 0, 0, 0, 0, 0, 0, 0, 0, 0, 0, 0, 0, 0, 0, 1] [true] (by kernel_rfl) (by kernel_rfl) (fun _ _ d _ _ h => by cases d <;> exact h) (sego_last fun K0 hK0 => ?_)
      simp only [pickC, ↓reduceIte, Nat.reduceEqDiff, Nat.reduceAdd]
      go_wp2_with fail
      refine hK0.out _ (sego_do fun K2 hK2 => ?_)
      clear hK0 K0
      simp only [pickC, ↓reduceIte, Nat.reduceEqDiff, Nat.reduceAdd]
      go_wp2_with fail
      have F := Lib.hid (show ChSt w (wc.setCell ⟨gp, p * 32 + q, none⟩ (.int .u8 (x : Int))).drew base g6 kd aa bb root n i A1 la c1 leaf (some ⟨gp, 0, none⟩) k k c2 (ps.set p ((ps.getD p []).set q x)) from ⟨M.out.c.far (by show w.heap.size + 1 ≠ gp; omega) _, M.out.r.far (by show w.heap.size + 1 + 1 ≠ gp; omega) _, M.out.x.far (M.out.x.neT HBk.out (by decide)) _, M.out.l.cellT HBk.out (by decide) _ _, by have := M.out.p.setAny (p * 32 + q) (.int .u8 (x : Int)); rwa [hcell_set1 ps HI.out.2.2.2.2.2.2.1 p q x (by rw [HI.out.2.2.2.2.2.1]; exact hp) hq] at this, (M.out.b.setCell (by show w.heap.size ≤ gp; omega) _).drew, M.out.hg, M.out.hb⟩)
      have l9 := load87_run F.out.x HI.out.1
      have s9 := store87_run F.out.r (by rfl) (clC_size _ HI.out.1 _ _ _ _) (clC_one root n i A1 (some ⟨gp, 0, none⟩) la c1 k c2)
      go_wp2_with fail
      refine hK2.out _ _ (sego_end fun K0 hK0 => ?_)
      clear hK2 K2
      simp only [pickC, ↓reduceIte, Nat.reduceEqDiff, Nat.reduceAdd]
      go_wp2_with fail
      refine hK0.out _ ?_
      clear hK0 K0
      go_wp2_with fail
      exact cl_ret (p := 4) F.out rfl rfl rfl HI.out.1 HI.out.2.1 HI.out.2.2.1 (by omega) HI.out.2.2.2.1 (show (ps.set p ((ps.getD p []).set q x)).length = k by rw [List.length_set]; exact HI.out.2.2.2.2.2.1) (by omega) (by omega) (digs_set HI.out.2.2.2.2.2.2.1 p _ (by rw [List.length_set]; exact HD.out.1) (bytes_set HD.out.2 q x hx))
  · have e8 : (kd : Int) % 8 = 2 := by omega
    clear h8
    obtain ⟨q, hq, eq⟩ : ∃ q : Nat, q < 32 ∧ (aa : Int) % 32 = q := idx_mod aa 32 (by omega)
    have hcj := (M.out.x.cell q).trans (clC_at root HI.out.1 n i (.slice A1 la c1) (.slice P1 k c2) q hq)
    obtain ⟨x, hx, ex⟩ := xor_byte (root.getD q 0) b (byte_at HI.out.2.1 q) hb2
    generalize root.getD q 0 = y0 at hcj ex
    go_upto_region 25 with (fail)
    have F := Lib.hid (show ChSt w (wc.setCell ⟨g6, q, none⟩ (.int .u8 (x : Int))) base g6 kd aa bb (root.set q x) n i A1 la c1 leaf P1 k k c2 ps from ⟨M.out.c.far (by show w.heap.size + 1 ≠ g6; omega) _, M.out.r.far (by show w.heap.size + 1 + 1 ≠ g6; omega) _, by have := M.out.x.set_ q (.int .u8 (x : Int)); rwa [clC_sr root HI.out.1 n i _ _ q x hq] at this, M.out.l.cellT M.out.x (by decide) q _, M.out.p.cellT M.out.x (by decide) q _, M.out.b.setCell (by show w.heap.size ≤ g6; omega) _, M.out.hg, M.out.hb⟩)
    clear f32 f33 f34 f35 fz hcj
    have l9 := load87_run F.out.x (show (root.set q x).length = 32 by rw [List.length_set]; exact HI.out.1)
    have s9 := store87_run F.out.r (by rfl) (clC_size _ (show (root.set q x).length = 32 by rw [List.length_set]; exact HI.out.1) _ _ _ _) (clC_one (root.set q x) n i A1 P1 la c1 k c2)
    go_wp2_with fail
    exact cl_ret (p := 4) F.out rfl rfl rfl (show (root.set q x).length = 32 by rw [List.length_set]; exact HI.out.1) (bytes_set HI.out.2.1 q x hx) HI.out.2.2.1 (by omega) HI.out.2.2.2.1 HI.out.2.2.2.2.2.1 (by omega) (by omega) HI.out.2.2.2.2.2.2.1
  · have e8 : (kd : Int) % 8 = 3 := by omega
    clear h8
    go_upto_region 25 with (fail)
    obtain ⟨z, hz⟩ : ∃ z : Int, wrap64 (i + wrap64 (IntKind.i8.wrap (b : Int))) = z := ⟨_, rfl⟩
    rw [hz]
    clear hz
    have F := Lib.hid (show ChSt w (wc.setCell ⟨g6, 33, none⟩ (.int .i64 z)) base g6 kd aa bb root n z A1 la c1 leaf P1 k k c2 ps from ⟨M.out.c.far (by show w.heap.size + 1 ≠ g6; omega) _, M.out.r.far (by show w.heap.size + 1 + 1 ≠ g6; omega) _, by have := M.out.x.set_ 33 (.int .i64 z); rwa [clC_s33 root HI.out.1 n i] at this, M.out.l.cellT M.out.x (by decide) 33 _, M.out.p.cellT M.out.x (by decide) 33 _, M.out.b.setCell (by show w.heap.size ≤ g6; omega) _, M.out.hg, M.out.hb⟩)
    clear f32 f33 f34 f35 fz
    have l9 := load87_run F.out.x HI.out.1
    have s9 := store87_run F.out.r (by rfl) (clC_size _ HI.out.1 _ _ _ _) (clC_one root n z A1 P1 la c1 k c2)
    go_wp2_with fail
    exact cl_ret (p := 4) F.out rfl rfl rfl HI.out.1 HI.out.2.1 HI.out.2.2.1 (by omega) HI.out.2.2.2.1 HI.out.2.2.2.2.2.1 (by omega) (by omega) HI.out.2.2.2.2.2.2.1
  · have e8 : (kd : Int) % 8 = 4 := by omega
    clear h8
    go_upto_region 25 with (fail)
    obtain ⟨z, hz⟩ : ∃ z : Int, wrap64 (n + wrap64 (IntKind.i8.wrap (b : Int))) = z := ⟨_, rfl⟩
    rw [hz]
    clear hz
    have F := Lib.hid (show ChSt w (wc.setCell ⟨g6, 32, none⟩ (.int .i64 z)) base g6 kd aa bb root z i A1 la c1 leaf P1 k k c2 ps from ⟨M.out.c.far (by show w.heap.size + 1 ≠ g6; omega) _, M.out.r.far (by show w.heap.size + 1 + 1 ≠ g6; omega) _, by have := M.out.x.set_ 32 (.int .i64 z); rwa [clC_s32 root HI.out.1 n i] at this, M.out.l.cellT M.out.x (by decide) 32 _, M.out.p.cellT M.out.x (by decide) 32 _, M.out.b.setCell (by show w.heap.size ≤ g6; omega) _, M.out.hg, M.out.hb⟩)
    clear f32 f33 f34 f35 fz
    have l9 := load87_run F.out.x HI.out.1
    have s9 := store87_run F.out.r (by rfl) (clC_size _ HI.out.1 _ _ _ _) (clC_one root z i A1 P1 la c1 k c2)
    go_wp2_with fail
    exact cl_ret (p := 4) F.out rfl rfl rfl HI.out.1 HI.out.2.1 HI.out.2.2.1 (by omega) HI.out.2.2.2.1 HI.out.2.2.2.2.2.1 (by omega) (by omega) HI.out.2.2.2.2.2.2.1
  · have e8 : (kd : Int) % 8 = 5 := by omega
    clear h8
    by_cases h0 : k = 0
    · subst h0
      have F := M
      have l9 := load87_run F.out.x HI.out.1
      have s9 := store87_run F.out.r (by rfl) (clC_size _ HI.out.1 _ _ _ _) (clC_one root n i A1 P1 la c1 0 c2)
      go_wp2_with fail
      exact cl_ret (p := 4) F.out rfl rfl rfl HI.out.1 HI.out.2.1 HI.out.2.2.1 (by omega) HI.out.2.2.2.1 HI.out.2.2.2.2.2.1 (by omega) (by omega) HI.out.2.2.2.2.2.2.1
    · obtain ⟨q, rfl⟩ : ∃ q, k = q + 1 := ⟨k - 1, by omega⟩
      have hcp := M.out.p.cap'
      have sl := fun W => sl67_h P1 (q + 1) c2 q (by omega) W
      have hkI : ((q + 1 : Nat) : Int) = (q : Int) + 1 := by omega
      have t0 : (0 : Int) < (q : Int) + 1 := by omega
      go_upto_region 25 with (fail)
      have F := Lib.hid (show ChSt w (wc.setCell ⟨g6, 35, none⟩ (.slice P1 q c2)) base g6 kd aa bb root n i A1 la c1 leaf P1 q (q + 1) c2 ps from ⟨M.out.c.far (by show w.heap.size + 1 ≠ g6; omega) _, M.out.r.far (by show w.heap.size + 1 + 1 ≠ g6; omega) _, by have := M.out.x.set_ 35 (.slice P1 q c2); rwa [clC_s35 root HI.out.1 n i] at this, M.out.l.cellT M.out.x (by decide) 35 _, M.out.p.cellT M.out.x (by decide) 35 _, M.out.b.setCell (by show w.heap.size ≤ g6; omega) _, M.out.hg, M.out.hb⟩)
      clear f32 f33 f34 f35 fz
      have l9 := load87_run F.out.x HI.out.1
      have s9 := store87_run F.out.r (by rfl) (clC_size _ HI.out.1 _ _ _ _) (clC_one root n i A1 P1 la c1 q c2)
      go_wp2_with fail
      exact cl_ret (p := 4) F.out rfl rfl rfl HI.out.1 HI.out.2.1 HI.out.2.2.1 (by omega) HI.out.2.2.2.1 HI.out.2.2.2.2.2.1 (by omega) (by omega) HI.out.2.2.2.2.2.2.1
  · have e8 : (kd : Int) % 8 = 6 := by omega
    clear h8
    have l25 := load87_root M.out.x HI.out.1
    have b1 := bs67_run root HI.out.1
    have hbs := M.out.b.size
    have hbs1 := hbs0
    go_upto_region 25 with (at_builtin; refine wpList_appWG 67 25 (.agg (u8s (zer 32))) 32 32 Tryd.underlying67 info25 rfl (by decide) rfl (.tmp 123) (.tmp 126) rfl base P1 k c2 (hcell ps) rfl (M.out.p.alloc _) (some ⟨wc.heap.size, 0, none⟩) 1 1 (bvals root) rfl (by rw [bvals_length, HI.out.1]) (by intro e; cases e) (by rw [← u8s_bvals]; exact lv_blk (Blk.new wc 25 (u8s root))) (bvals_one root) (by omega) (by omega) (by have := hbs0; simp; omega) ?_; intro P2 c3 w5 O5 B5 G5; have X5 := (M.out.x.alloc (.cells (u8s root) 25)).grownT G5 (OW.rowTy (M.out.p.alloc _)) (by decide); have H5 := Lib.hid (And.intro O5 (And.intro B5 (And.intro G5 X5))); have f5 := (X5.cell 35).trans (clC_35 root HI.out.1 n i (.slice A1 la c1) (.slice P1 k c2)); have z5 := X5.frozen; clear O5 B5 G5 X5)
    rw [← hcell_snoc] at H5
    have F := Lib.hid (show ChSt w (w5.setCell ⟨g6, 35, none⟩ (.slice P2 (k + 1) c3)) base g6 kd aa bb root n i A1 la c1 leaf P2 (k + 1) (k + 1) c3 (ps ++ [root]) from ⟨((M.out.c.alloc (.cells (u8s root) 25)).below H5.out.2.1 (by omega)).far (by show w.heap.size + 1 ≠ g6; omega) _, ((M.out.r.alloc (.cells (u8s root) 25)).below H5.out.2.1 (by omega)).far (by show w.heap.size + 1 + 1 ≠ g6; omega) _, by have := H5.out.2.2.2.set_ 35 (.slice P2 (k + 1) c3); rwa [clC_s35 root HI.out.1 n i] at this, (OW.grownT (M.out.l.alloc (.cells (u8s root) 25)) H5.out.2.2.1 (OW.rowTy (M.out.p.alloc (.cells (u8s root) 25))) (by decide)).cellT H5.out.2.2.2 (by decide) 35 _, H5.out.1.cellT H5.out.2.2.2 (by decide) 35 _, ((M.out.b.alloc hbs (.cells (u8s root) 25)).trans (H5.out.2.1.mono (by omega))).setCell (by show w.heap.size ≤ g6; omega) _, M.out.hg, M.out.hb⟩)
    clear f32 f33 f34 f35 fz f5 z5 l25
    have l9 := load87_run F.out.x HI.out.1
    have s9 := store87_run F.out.r (by rfl) (clC_size _ HI.out.1 _ _ _ _) (clC_one root n i A1 P2 la c1 (k + 1) c3)
    go_wp2_with fail
    exact cl_ret (p := 4) F.out rfl rfl rfl HI.out.1 HI.out.2.1 HI.out.2.2.1 (by omega) HI.out.2.2.2.1 (show (ps ++ [root]).length = k + 1 by rw [List.length_append, HI.out.2.2.2.2.2.1]; rfl) (by omega) (by omega) (HI.out.2.2.2.2.2.2.1.snoc HI.out.1 HI.out.2.1)
  · have e8 : (kd : Int) % 8 = 7 := by omega
    clear h8
    have hbs := M.out.b.size
    have hbs1 := hbs0
    go_upto_region 25 with (at_builtin; refine wpList_appWG 22 5 (.int .u8 0) 1 1 Tryd.underlying22 info5 rfl (by decide) rfl (.tmp 132) (.tmp 134) rfl base A1 la c1 (bvals leaf) rfl (M.out.l.alloc _) (some ⟨wc.heap.size, 0, none⟩) 1 1 (bvals [b]) rfl rfl (by intro e; cases e) (lv_blk (Blk.new wc 5 #[.int .u8 (b : Int)])) (bvals_one [b]) (by omega) (by omega) (by have := hbs0; simp; omega) ?_; intro P2 c3 w5 O5 B5 G5; have X5 := (M.out.x.alloc (.cells #[.int .u8 (b : Int)] 5)).grownT G5 (OW.rowTy (M.out.l.alloc _)) (by decide); have H5 := Lib.hid (And.intro O5 (And.intro B5 (And.intro G5 X5))); have f5 := (X5.cell 34).trans (clC_34 root HI.out.1 n i (.slice A1 la c1) (.slice P1 k c2)); have z5 := X5.frozen; clear O5 B5 G5 X5)
    rw [← bvals_append] at H5
    have F := Lib.hid (show ChSt w (w5.setCell ⟨g6, 34, none⟩ (.slice P2 (la + 1) c3)) base g6 kd aa bb root n i P2 (la + 1) c3 (leaf ++ [b]) P1 k k c2 ps from ⟨((M.out.c.alloc (.cells #[.int .u8 (b : Int)] 5)).below H5.out.2.1 (by omega)).far (by show w.heap.size + 1 ≠ g6; omega) _, ((M.out.r.alloc (.cells #[.int .u8 (b : Int)] 5)).below H5.out.2.1 (by omega)).far (by show w.heap.size + 1 + 1 ≠ g6; omega) _, by have := H5.out.2.2.2.set_ 34 (.slice P2 (la + 1) c3); rwa [clC_s34 root HI.out.1 n i] at this, H5.out.1.cellT H5.out.2.2.2 (by decide) 34 _, (OW.grownT (M.out.p.alloc (.cells #[.int .u8 (b : Int)] 5)) H5.out.2.2.1 (OW.rowTy (M.out.l.alloc (.cells #[.int .u8 (b : Int)] 5))) (by decide)).cellT H5.out.2.2.2 (by decide) 34 _, ((M.out.b.alloc hbs (.cells #[.int .u8 (b : Int)] 5)).trans (H5.out.2.1.mono (by omega))).setCell (by show w.heap.size ≤ g6; omega) _, M.out.hg, M.out.hb⟩)
    clear f32 f33 f34 f35 fz f5 z5
    have l9 := load87_run F.out.x HI.out.1
    have s9 := store87_run F.out.r (by rfl) (clC_size _ HI.out.1 _ _ _ _) (clC_one root n i P2 P1 (la + 1) c3 k c2)
    go_wp2_with fail
    exact cl_ret (p := 4) F.out rfl rfl rfl HI.out.1 HI.out.2.1 (show (leaf ++ [b]).length = la + 1 by rw [List.length_append, HI.out.2.2.1]; rfl) (by omega) (HI.out.2.2.2.1.append (Bytes.of_mem (by intro y hy; rw [List.mem_singleton] at hy; omega))) HI.out.2.2.2.2.2.1 (by omega) (by omega) HI.out.2.2.2.2.2.2.1
end Go.Proofs.YtediocpdpghbfaaDoor
