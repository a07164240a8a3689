/- Merkle: Verify of the reference. -/
import Derived.Test.YtediocpdpghbfaaDoorMrpt
import Derived.Test.YtediocpdpghbfaaDoorMver
set_option linter.unusedSimpArgs false
set_option linter.unusedVariables false
namespace Go.Proofs.YtediocpdpghbfaaDoor
open Go Go.RowKit

theorem verifyL_path (root : List Nat) (n i : Nat) (leaf : List Nat) (ps : List (List Nat)) (h1 : 1 ≤ n) (hi : i < n) :
    verifyL root n i leaf ps = if (pathL n i (leafL leaf) ps).2 = false then 3 else if (pathL n i (leafL leaf) ps).1 ≠ root then 27 else 0 := by
  obtain ⟨e1, e2⟩ := pathL_eq n i (leafL leaf) ps h1 hi
  unfold verifyL
  by_cases h : ps.length = (sidesL n i).length
  · rw [e1, decide_eq_true h, if_neg (show ¬ (ps.length ≠ (sidesL n i).length) by simpa using h), e2 h]
    simp
  · rw [e1, decide_eq_false h, if_pos h, if_pos rfl]
structure RvSt (w W : World) (g : Nat) (root : List Nat) : Prop where
  t : Blk W g 32 (u32s TT)
  r : Blk W (g + 1) 24 (u8s root)
  b : Below g w W
theorem RvSt.step {w W W' : World} {g : Nat} {root : List Nat} (k : RvSt w W g root) (b : Below W.heap.size W W') : RvSt w W' g root :=
  ⟨k.t.below b k.t.lt, k.r.below b k.r.lt, k.b.trans (b.mono (Nat.le_of_lt k.t.lt))⟩
theorem RvSt.row {w W : World} {g : Nat} {root : List Nat} (k : RvSt w W g root) {e : Nat} (h1 : g + 1 < e) (cs : Array Value) : RvSt w (W.setRow e cs) g root :=
  ⟨k.t.farRow (by omega) _, k.r.farRow (by omega) _, below_setRow' k.b (by omega) _⟩
theorem rv_start (w : World) (root : List Nat) : RvSt w ((w.alloc (.cells (u32s TT) 32)).alloc (.cells (u8s root) 24)) w.heap.size root :=
  ⟨(Blk.new _ _ _).alloc _, Blk.new1 _ _ _ _, ((Below.refl _ _).alloc (Nat.le_refl _) _).alloc (by simp) _⟩
attribute [local go_sem ↓] ld24 st24 ld32 alc24_rule
attribute [local go_sem] alc24_run
set_option maxRecDepth 100000 in
theorem rverify_bad (w : World) (root : List Nat) (n i : Int) (h : n < 1 ∨ 65536 < n ∨ i < 0 ∨ n ≤ i) (L P : Value) :
    Calls Tryd.prog 54 #[.agg (u32s TT), .agg (u8s root), .int .i64 n, .int .i64 i, L, P] w fun e w' => e = .returned (.int .i64 2) ∧ Below w.heap.size w w' := by
  have h4 : n < 1 ∨ (¬ n < 1 ∧ 65536 < n) ∨ (¬ n < 1 ∧ ¬ 65536 < n ∧ i < 0) ∨ (¬ n < 1 ∧ ¬ 65536 < n ∧ ¬ i < 0 ∧ n ≤ i) := by omega
  clear h
  have HE := Lib.hid (rv_start w root)
  rcases h4 with h1 | ⟨h1, h2⟩ | ⟨h1, h2, h3⟩ | ⟨h1, h2, h3, h4⟩
  all_goals
    go_enter Tryd.func54, Tryd.ntmps54
    go_wp2_with fail
    go_ret
    exact ⟨rfl, HE.out.b⟩
set_option maxRecDepth 100000 in
set_option maxHeartbeats 4000000 in
theorem rverify_any (w : World) (root : List Nat) (hr : root.length = 32) (n i : Nat) (hn1 : 1 ≤ n) (hn : n ≤ 65536) (hi : i < n) (leaf : List Nat) (A : Option Addr) (m cap : Nat) (hm : leaf.length = m) (hcap : m ≤ cap) (hm2 : m ≤ 2000) (hB : Bytes leaf) (hR : RW w A cap leaf)
    (ps : List (List Nat)) (P : Option Addr) (k pc : Nat) (hk : ps.length = k) (hk2 : k ≤ 65536) (hkp : k ≤ pc) (hpc : pc ≤ 9223372036854775807) (hd : Digs ps) (hP : LV w P (hcell ps)) :
    Calls Tryd.prog 54 #[.agg (u32s TT), .agg (u8s root), .int .i64 n, .int .i64 i, .slice A m cap, .slice P k pc] w fun e w' => e = .returned (.int .i64 (verifyL root n i leaf ps)) ∧ Below w.heap.size w w' := by
  rw [verifyL_path root n i leaf ps hn1 hi]
  have hlo := leafL_length leaf
  have hlb : Bytes (leafL leaf) := sha_bytes _
  have hxo := pathL_ok n i (leafL leaf) ps hn1 hi hlo hlb hd
  have HL := Lib.hid (fun W (s : Below w.heap.size w W) => rleaf_any W leaf A m cap hm hcap (by omega) hB (hR.below s))
  have HC := Lib.hid (fun W (s : Below w.heap.size w W) => rpath_any n i (leafL leaf) ps W P k pc hn1 hn hi hlo hlb hk (by omega) hkp hpc hd (hP.below s))
  clear hB hR hd hP hm hk
  generalize leafL leaf = lf at *
  generalize pathL n i lf ps = r at *
  obtain ⟨x, b⟩ := r
  simp only at hxo HC ⊢
  have t1 : ¬ (n : Int) < 1 := by omega
  have t2 : ¬ (65536 : Int) < n := by omega
  have t3 : ¬ (i : Int) < 0 := by omega
  have t4 : ¬ (n : Int) ≤ i := by omega
  obtain ⟨W, hW⟩ : ∃ W, W = (w.alloc (.cells (u32s TT) 32)).alloc (.cells (u8s root) 24) := ⟨_, rfl⟩
  have HE := Lib.hid (show RvSt w W w.heap.size root by rw [hW]; exact rv_start w root)
  go_enter Tryd.func54, Tryd.ntmps54
  go_wp2_with fail
  rw [← hW]
  clear hW
  have M := Lib.hid (HE.out.step (Below.refl _ _).drew)
  have lt := load32_run M.out.t
  clear HE
  refine wp_region_pv (.still [false, true, true, false, true, false, true, false, false, false, false, false, false, false] (.look [true, false, false, true, false, false, false, false, false, false, false, false, false, false] (.fork [false, false, false, false, false, true, false, false, false, false, false, false, false, false] (.fork [false, false, false, false, false, false, false, true, false, false, false, false, false, false] (.still [false, false, false, false, false, false, false, false, true, true, true, false, false, false] (.act [false, false, false, false, false, false, false, false, false, false, false, true, false, false] (.act [false, false, false, false, false, false, false, false, false, false, false, false, true, false] (.still [false, false, false, false, false, false, false, false, false, false, false, false, false, true] .stop)))) (.act [false, false, false, false, false, false, false, false, false, false, false, true, false, false] (.act [false, false, false, false, false, false, false, true, false, false, false, false, false, false] (.still [false, false, false, false, false, false, false, false, true, true, true, false, false, false] (.act [false, false, false, false, false, false, false, false, false, false, false, false, true, false] (.still [false, false, false, false, false, false, false, false, false, false, false, false, false, true] .stop)))))) (.act [false, false, false, false, false, false, false, false, false, false, false, true, false, false] (.act [false, false, false, false, false, true, false, false, false, false, false, false, false, false] (.act [false, false, false, false, false, false, false, true, false, false, false, false, false, false] (.still [false, false, false, false, false, false, false, false, true, true, true, false, false, false] (.act [false, false, false, false, false, false, false, false, false, false, false, false, true, false] (.still [false, false, false, false, false, false, false, false, false, false, false, false, false, true] .stop))))))))) (by kernel_rfl) (by kernel_rfl) (fun _ _ d _ _ h => by cases d <;> exact h) ?_
  generalize W.drew = V at *
  refine sv_still fun K0 hK0 => ?_
  simp only [pickM]
  go_wp2_with fail
  refine hK0.out _ ?_
  clear hK0 K0
  refine sv_look fun K0 hK0 => ?_
  simp only [pickM]
  go_wp2_with fail
  refine hK0.out _ ?_
  clear hK0 K0
  refine sv_fork (fun K2 hK2 => ?_) ?_
  · simp only [pickM]
    go_wp2_with fail
    refine (HL.out _ M.out.b).mono ?_
    rintro e x1 ⟨rfl, hBelow⟩
    have M := Lib.hid (M.out.step hBelow)
    go_wp2_with fail
    have hsx1 := Lib.hid (show Sof (some V) x1 from hBelow)
    refine hK2.out _ _ hsx1.out ?_
    clear hK2 K2 hBelow
    refine sv_fork (fun K2 hK2 => ?_) ?_
    · simp only [pickM]
      go_wp2_with fail
      refine (HC.out _ M.out.b).mono ?_
      rintro e x2 ⟨rfl, hBelow⟩
      have M := Lib.hid (M.out.step hBelow)
      go_wp2_with fail
      have hsx2 := Lib.hid (Sof.step hsx1.out hBelow)
      refine hK2.out _ _ hsx2.out ?_
      clear hK2 K2 hBelow
      refine sv_still fun K0 hK0 => ?_
      simp only [pickM]
      go_wp2_with fail
      refine hK0.out _ ?_
      clear hK0 K0
      refine sv_act fun K2 hK2 => ?_
      simp only [pickM]
      go_wp2_with fail
      obtain ⟨x3, hx⟩ : ∃ X, X = World.alloc x2 (.cells (u8s (zer 32)) 24) := ⟨_, rfl⟩
      rw [← hx]
      have hBelow : Below x2.heap.size x2 x3 := by rw [hx]; exact (Below.refl _ _).alloc (Nat.le_refl _) _
      have E := Lib.hid (show Blk x3 x2.heap.size 24 (u8s (zer 32)) by rw [hx]; exact Blk.new x2 24 _)
      have hE1 : w.heap.size + 1 < x2.heap.size := M.out.r.lt
      have hE3 : V.heap.size ≤ x2.heap.size := (show Below _ _ _ from hsx2.out).size
      have M := Lib.hid (M.out.step hBelow)
      clear hx
      go_wp2_with fail
      have hsx3 := Lib.hid (Sof.step hsx2.out hBelow)
      refine hK2.out _ _ hsx3.out ?_
      clear hK2 K2 hBelow
      refine sv_act fun K2 hK2 => ?_
      simp only [pickM]
      have s1 := store24_run E.out rfl hxo.1
      go_wp2_with fail
      obtain ⟨x4, hx⟩ : ∃ X, X = World.setRow x3 x2.heap.size (u8s x) := ⟨_, rfl⟩
      rw [← hx]
      have hSof : Below V.heap.size V x4 := by rw [hx]; exact below_setRow' (show Below _ _ _ from hsx3.out) hE3 _
      have E2 := Lib.hid (show Blk x4 x2.heap.size 24 (u8s x) by rw [hx]; exact E.out.setRow _)
      have M := Lib.hid (show RvSt w x4 w.heap.size root by rw [hx]; exact M.out.row hE1 _)
      clear hx s1 E
      have E := E2
      clear E2
      go_wp2_with fail
      have hsx4 := Lib.hid (show Sof (some V) x4 from hSof)
      refine hK2.out _ _ hsx4.out ?_
      clear hK2 K2 hSof
      refine sv_still fun K0 hK0 => ?_
      simp only [pickM]
      go_wp2_with fail
      refine hK0.out _ ?_
      clear hK0 K0
      change Exit.then _ _ _ _ _
      clear lt
      have lx := load24M E.out hxo.1
      have lr := load24M M.out.r hr
      cases b
      · go_wp2_with fail
        go_ret
        exact ⟨rfl, M.out.b⟩
      · by_cases hxr : x = root
        · have hq := fun W => run_equalIn_dig24 W x root hxo.1 hr
          rw [decide_eq_true hxr] at hq
          have HX := Lib.hid hxr
          clear hxr
          go_wp2_with fail
          go_ret
          exact ⟨rfl, M.out.b⟩
        · have hq := fun W => run_equalIn_dig24 W x root hxo.1 hr
          rw [decide_eq_false hxr] at hq
          have HX := Lib.hid hxr
          clear hxr
          go_wp2_with fail
          go_ret
          exact ⟨rfl, M.out.b⟩
    · refine sv_act fun K2 hK2 => ?_
      simp only [pickM]
      go_wp2_with fail
      obtain ⟨x5, hx⟩ : ∃ X, X = World.alloc x1 (.cells (u8s (zer 32)) 24) := ⟨_, rfl⟩
      rw [← hx]
      have hBelow : Below x1.heap.size x1 x5 := by rw [hx]; exact (Below.refl _ _).alloc (Nat.le_refl _) _
      have E := Lib.hid (show Blk x5 x1.heap.size 24 (u8s (zer 32)) by rw [hx]; exact Blk.new x1 24 _)
      have hE1 : w.heap.size + 1 < x1.heap.size := M.out.r.lt
      have hE3 : V.heap.size ≤ x1.heap.size := (show Below _ _ _ from hsx1.out).size
      have M := Lib.hid (M.out.step hBelow)
      clear hx
      go_wp2_with fail
      have hsx5 := Lib.hid (Sof.step hsx1.out hBelow)
      refine hK2.out _ _ hsx5.out ?_
      clear hK2 K2 hBelow
      refine sv_act fun K2 hK2 => ?_
      simp only [pickM]
      go_wp2_with fail
      refine (HC.out _ M.out.b).mono ?_
      rintro e x6 ⟨rfl, hBelow⟩
      have M := Lib.hid (M.out.step hBelow)
      have E := Lib.hid (E.out.below hBelow E.out.lt)
      go_wp2_with fail
      have hsx6 := Lib.hid (Sof.step hsx5.out hBelow)
      refine hK2.out _ _ hsx6.out ?_
      clear hK2 K2 hBelow
      refine sv_still fun K0 hK0 => ?_
      simp only [pickM]
      go_wp2_with fail
      refine hK0.out _ ?_
      clear hK0 K0
      refine sv_act fun K2 hK2 => ?_
      simp only [pickM]
      have s1 := store24_run E.out rfl hxo.1
      go_wp2_with fail
      obtain ⟨x7, hx⟩ : ∃ X, X = World.setRow x6 x1.heap.size (u8s x) := ⟨_, rfl⟩
      rw [← hx]
      have hSof : Below V.heap.size V x7 := by rw [hx]; exact below_setRow' (show Below _ _ _ from hsx6.out) hE3 _
      have E2 := Lib.hid (show Blk x7 x1.heap.size 24 (u8s x) by rw [hx]; exact E.out.setRow _)
      have M := Lib.hid (show RvSt w x7 w.heap.size root by rw [hx]; exact M.out.row hE1 _)
      clear hx s1 E
      have E := E2
      clear E2
      go_wp2_with fail
      have hsx7 := Lib.hid (show Sof (some V) x7 from hSof)
      refine hK2.out _ _ hsx7.out ?_
      clear hK2 K2 hSof
      refine sv_still fun K0 hK0 => ?_
      simp only [pickM]
      go_wp2_with fail
      refine hK0.out _ ?_
      clear hK0 K0
      change Exit.then _ _ _ _ _
      clear lt
      have lx := load24M E.out hxo.1
      have lr := load24M M.out.r hr
      cases b
      · go_wp2_with fail
        go_ret
        exact ⟨rfl, M.out.b⟩
      · by_cases hxr : x = root
        · have hq := fun W => run_equalIn_dig24 W x root hxo.1 hr
          rw [decide_eq_true hxr] at hq
          have HX := Lib.hid hxr
          clear hxr
          go_wp2_with fail
          go_ret
          exact ⟨rfl, M.out.b⟩
        · have hq := fun W => run_equalIn_dig24 W x root hxo.1 hr
          rw [decide_eq_false hxr] at hq
          have HX := Lib.hid hxr
          clear hxr
          go_wp2_with fail
          go_ret
          exact ⟨rfl, M.out.b⟩
  · refine sv_act fun K2 hK2 => ?_
    simp only [pickM]
    go_wp2_with fail
    obtain ⟨x8, hx⟩ : ∃ X, X = World.alloc V (.cells (u8s (zer 32)) 24) := ⟨_, rfl⟩
    rw [← hx]
    have hBelow : Below V.heap.size V x8 := by rw [hx]; exact (Below.refl _ _).alloc (Nat.le_refl _) _
    have E := Lib.hid (show Blk x8 V.heap.size 24 (u8s (zer 32)) by rw [hx]; exact Blk.new V 24 _)
    have hE1 : w.heap.size + 1 < V.heap.size := M.out.r.lt
    have hE3 : V.heap.size ≤ V.heap.size := Nat.le_refl _
    have M := Lib.hid (M.out.step hBelow)
    clear hx
    go_wp2_with fail
    have hsx8 := Lib.hid (show Sof (some V) x8 from hBelow)
    refine hK2.out _ _ hsx8.out ?_
    clear hK2 K2 hBelow
    refine sv_act fun K2 hK2 => ?_
    simp only [pickM]
    go_wp2_with fail
    refine (HL.out _ M.out.b).mono ?_
    rintro e x9 ⟨rfl, hBelow⟩
    have M := Lib.hid (M.out.step hBelow)
    have E := Lib.hid (E.out.below hBelow E.out.lt)
    go_wp2_with fail
    have hsx9 := Lib.hid (Sof.step hsx8.out hBelow)
    refine hK2.out _ _ hsx9.out ?_
    clear hK2 K2 hBelow
    refine sv_act fun K2 hK2 => ?_
    simp only [pickM]
    go_wp2_with fail
    refine (HC.out _ M.out.b).mono ?_
    rintro e x10 ⟨rfl, hBelow⟩
    have M := Lib.hid (M.out.step hBelow)
    have E := Lib.hid (E.out.below hBelow E.out.lt)
    go_wp2_with fail
    have hsx10 := Lib.hid (Sof.step hsx9.out hBelow)
    refine hK2.out _ _ hsx10.out ?_
    clear hK2 K2 hBelow
    refine sv_still fun K0 hK0 => ?_
    simp only [pickM]
    go_wp2_with fail
    refine hK0.out _ ?_
    clear hK0 K0
    refine sv_act fun K2 hK2 => ?_
    simp only [pickM]
    have s1 := store24_run E.out rfl hxo.1
    go_wp2_with fail
    obtain ⟨x11, hx⟩ : ∃ X, X = World.setRow x10 V.heap.size (u8s x) := ⟨_, rfl⟩
    rw [← hx]
    have hSof : Below V.heap.size V x11 := by rw [hx]; exact below_setRow' (show Below _ _ _ from hsx10.out) hE3 _
    have E2 := Lib.hid (show Blk x11 V.heap.size 24 (u8s x) by rw [hx]; exact E.out.setRow _)
    have M := Lib.hid (show RvSt w x11 w.heap.size root by rw [hx]; exact M.out.row hE1 _)
    clear hx s1 E
    have E := E2
    clear E2
    go_wp2_with fail
    have hsx11 := Lib.hid (show Sof (some V) x11 from hSof)
    refine hK2.out _ _ hsx11.out ?_
    clear hK2 K2 hSof
    refine sv_still fun K0 hK0 => ?_
    simp only [pickM]
    go_wp2_with fail
    refine hK0.out _ ?_
    clear hK0 K0
    change Exit.then _ _ _ _ _
    clear lt
    have lx := load24M E.out hxo.1
    have lr := load24M M.out.r hr
    cases b
    · go_wp2_with fail
      go_ret
      exact ⟨rfl, M.out.b⟩
    · by_cases hxr : x = root
      · have hq := fun W => run_equalIn_dig24 W x root hxo.1 hr
        rw [decide_eq_true hxr] at hq
        have HX := Lib.hid hxr
        clear hxr
        go_wp2_with fail
        go_ret
        exact ⟨rfl, M.out.b⟩
      · have hq := fun W => run_equalIn_dig24 W x root hxo.1 hr
        rw [decide_eq_false hxr] at hq
        have HX := Lib.hid hxr
        clear hxr
        go_wp2_with fail
        go_ret
        exact ⟨rfl, M.out.b⟩
end Go.Proofs.YtediocpdpghbfaaDoor
