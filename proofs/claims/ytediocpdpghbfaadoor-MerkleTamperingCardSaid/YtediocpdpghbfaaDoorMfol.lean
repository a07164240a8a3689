/- Merkle: length and fold of a consistency proof. -/
import Derived.Test.YtediocpdpghbfaaDoorMrpt
import Derived.Test.YtediocpdpghbfaaDoorRegw
import Derived.RegionTactic
import Derived.ChangeAlike
import Derived.Deep.DeepCutAuto
set_option linter.unusedSimpArgs false
set_option linter.unusedVariables false
namespace Go.Proofs.YtediocpdpghbfaaDoor
open Go Go.RowKit

theorem lenC_le : ∀ (n m : Nat) (b : Bool), 1 ≤ m → m ≤ n → lenC m n b ≤ n := by
  intro n
  induction n using Nat.strongRecOn with
  | ind n ih =>
    intro m b h1 hm
    by_cases he : m = n
    · subst he; rw [lenC_eq m b h1]; cases b <;> simp; omega
    · have hk := splitL_bd n (by omega)
      by_cases hlt : splitL n < m
      · rw [lenC_hi m n b h1 (by omega) hlt]; have := ih (n - splitL n) (by omega) (m - splitL n) false (by omega) (by omega); omega
      · rw [lenC_lo m n b h1 (by omega) (by omega)]; have := ih (splitL n) (by omega) m b (by omega) (by omega); omega
set_option maxRecDepth 100000 in
theorem mlength_any : ∀ (n m : Nat) (b : Bool) (w : World), 1 ≤ m → m ≤ n → n ≤ 65536 →
    Calls Tryd.prog 83 #[.int .i64 m, .int .i64 n, .bool b] w fun e w' => e = .returned (.int .i64 (lenC m n b : Nat)) ∧ w = w' := by
  intro n
  induction n using Nat.strongRecOn with
  | ind n ih =>
    intro m b w h1 hm hn
    have IH := Lib.hid ih
    clear ih
    by_cases he : m = n
    · subst he
      rw [lenC_eq m b h1]
      have t0 : ((m : Int) == (m : Int)) = true := by simp
      cases b
      all_goals
        go_enter Tryd.func83, Tryd.ntmps83
        go_wp2_with fail
        go_ret
        exact ⟨rfl, rfl⟩
    · have hk := splitL_bd n (by omega)
      have t0 : ((m : Int) == (n : Int)) = false := by rw [beq_eq_false_iff_ne]; omega
      have HK := Lib.hid (fun W => msplit_any n (by omega) W)
      by_cases hlt : splitL n < m
      · rw [lenC_hi m n b h1 (by omega) hlt]
        have hc := fun W => IH.out (n - splitL n) (by omega) (m - splitL n) false W (by omega) (by omega) (by omega)
        rw [show ((n - splitL n : Nat) : Int) = (n : Int) - (splitL n : Nat) by omega, show ((m - splitL n : Nat) : Int) = (m : Int) - (splitL n : Nat) by omega] at hc
        have HC := Lib.hid hc
        have hb := lenC_le (n - splitL n) (m - splitL n) false (by omega) (by omega)
        clear hc IH
        generalize lenC (m - splitL n) (n - splitL n) false = v at *
        generalize splitL n = k at *
        go_enter Tryd.func83, Tryd.ntmps83
        go_wp2_with fail
        refine (HK.out _).mono ?_
        rintro e w1 ⟨rfl, rfl⟩
        go_wp2_with fail
        refine (HC.out _).mono ?_
        rintro e w1 ⟨rfl, rfl⟩
        go_wp2_with fail
        go_ret
        exact ⟨rfl, rfl⟩
      · rw [lenC_lo m n b h1 (by omega) (by omega)]
        have HC := Lib.hid (fun W => IH.out (splitL n) (by omega) m b W (by omega) (by omega) (by omega))
        have hb := lenC_le (splitL n) m b (by omega) (by omega)
        clear IH
        generalize lenC m (splitL n) b = v at *
        generalize splitL n = k at *
        go_enter Tryd.func83, Tryd.ntmps83
        go_wp2_with fail
        refine (HK.out _).mono ?_
        rintro e w1 ⟨rfl, rfl⟩
        go_wp2_with fail
        refine (HC.out _).mono ?_
        rintro e w1 ⟨rfl, rfl⟩
        go_wp2_with fail
        go_ret
        exact ⟨rfl, rfl⟩
structure FoSt (w W : World) (o : List Nat) : Prop where
  o : Blk W w.heap.size 25 (u8s o)
  a : Blk W (w.heap.size + 1) 25 (u8s (zer 32))
  b : Blk W (w.heap.size + 1 + 1) 25 (u8s (zer 32))
  at_ : At w W
def alc25 : Sem Value := Instr.alloc 25 true (.tuple #[])
theorem alc25_rule : Instr.alloc 25 true (.tuple #[]) = alc25 := rfl
theorem alc25_run (w : World) : alc25.run Tryd.prog w = .ok (.pointer (some ⟨w.heap.size, 0, none⟩)) (w.alloc (.cells (u8s (zer 32)) 25)) := by
  have h := info25
  unfold alc25 Instr.alloc
  cases hq : Tryd.prog.info? 25 with
  | none => rw [hq] at h; cases h
  | some i =>
    rw [hq] at h
    simp only [Option.map_some, Option.some.injEq, Prod.mk.injEq] at h
    simp [newVar, newRow, zeroValue, typeInfo, hq, h.1, Value.cells]
theorem fo_start (w : World) (hT : Tabs w) (o : List Nat) : FoSt w (((w.alloc (.cells (u8s o) 25)).alloc (.cells (u8s (zer 32)) 25)).alloc (.cells (u8s (zer 32)) 25)) o :=
  ⟨((Blk.new _ _ _).alloc _).alloc _, (Blk.new1 _ _ _ _).alloc _, Blk.new2 _ _ _ _ _, hT, (((Below.refl _ _).alloc (Nat.le_refl _) _).alloc (by simp) _).alloc (by simp only [size1]; omega) _⟩
/-- the results: two digests in fresh variables -/
theorem fo_ret {fn : Func} {a : Act} {w W : World} {p u : Tmp} {x y : List Nat} (h : fn.results = #[.cell p 25, .cell u 25]) (hx : x.length = 32) (hy : y.length = 32) (hp : a.tmps.getD p undef = .pointer (some ⟨w.heap.size + 1, 0, none⟩)) (hu : a.tmps.getD u undef = .pointer (some ⟨w.heap.size + 1 + 1, 0, none⟩)) (hdf : a.defers = [])
    (hA : Blk W (w.heap.size + 1) 25 (u8s x)) (hB : Blk W (w.heap.size + 1 + 1) 25 (u8s y)) (hW : Below w.heap.size w W) : bodyPost Tryd.prog fn (fun e w' => e = .returned (.tuple #[.agg (u8s x), .agg (u8s y)]) ∧ Below w.heap.size w w') .ret a W := by
  refine bodyPost_ret (v := .tuple #[.agg (u8s x), .agg (u8s y)]) ?_ hdf ⟨rfl, hW⟩
  have hp' : a.tmps[p]?.getD undef = .pointer (some ⟨w.heap.size + 1, 0, none⟩) := by simpa using hp
  have hu' : a.tmps[u]?.getD undef = .pointer (some ⟨w.heap.size + 1 + 1, 0, none⟩) := by simpa using hu
  simp [results, h, hp', hu', asAddr, run_loadVar_row W _ 25 25 _ (0, 0) _ hA Tryd.underlying25 rfl (size25 _ hx), run_loadVar_row W _ 25 25 _ (0, 0) _ hB Tryd.underlying25 rfl (size25 _ hy)]
/-- what the walk of the stores at the end keeps -/
structure FsSt (w W : World) (o : List Nat) : Prop where
  o : Blk W w.heap.size 25 (u8s o)
  b : Below w.heap.size w W
theorem FoSt.step {w W W' : World} {o : List Nat} (h : FoSt w W o) (b : Below W.heap.size W W') : FoSt w W' o := ⟨h.o.below b h.o.lt, h.a.below b h.a.lt, h.b.below b h.b.lt, h.at_.step b⟩
theorem FoSt.row {w W : World} {o : List Nat} (h : FoSt w W o) {e : Nat} (h1 : w.heap.size + 1 + 1 < e) (cs : Array Value) : FoSt w (W.setRow e cs) o :=
  ⟨h.o.farRow (by omega) _, h.a.farRow (by omega) _, h.b.farRow (by omega) _, at_rowT h.at_ (by omega) _⟩
structure F9 (w W : World) (gx gy : Nat) (x y : List Nat) : Prop where
  x : Blk W gx 25 (u8s x)
  y : Blk W gy 25 (u8s y)
  b : At w W
theorem F9.step {w W W' : World} {gx gy : Nat} {x y : List Nat} (h : F9 w W gx gy x y) (b : Below W.heap.size W W') : F9 w W' gx gy x y := ⟨h.x.below b h.x.lt, h.y.below b h.y.lt, h.b.step b⟩
theorem F9.row {w W : World} {gx gy : Nat} {x y : List Nat} (h : F9 w W gx gy x y) {e : Nat} (h1 : e ≤ w.heap.size + 1 + 1) (h2 : w.heap.size ≤ e) (hx : w.heap.size + 1 + 1 < gx) (hy : w.heap.size + 1 + 1 < gy) (cs : Array Value) : F9 w (W.setRow e cs) gx gy x y :=
  ⟨h.x.farRow (by omega) _, h.y.farRow (by omega) _, at_rowT h.b h2 _⟩
theorem elem67 : Tryd.prog.elem 67 = 25 := by kernel_rfl
theorem sl67_h (A : Option Addr) (n cap k : Nat) (hk : k ≤ cap) (w : World) :
    (Instr.sliceAt 67 (.slice A n cap) none (some (.int .i64 (k : Int))) none).run Tryd.prog w = .ok (.slice A k cap) w := by
  have hsz := dsize25
  rw [run_sliceAt_slice w 67 _ _ _ _ (by rw [elem67]; exact Tryd.underlying67), run_slice_h w 67 _ n cap (by rw [elem67]; exact Tryd.underlying67) .i64 k (by omega) (by omega)]
  cases hq : Tryd.prog.info? 25 with
  | none => simp [hq] at hsz
  | some i =>
    have hi : i.size = 32 := by simpa [hq] using hsz
    cases A <;> simp [elem67, sizeOf, typeInfo, hq, hi, sliced, Addr.add]
theorem foldC_ok : ∀ (n m : Nat) (b : Bool) (o : List Nat) (ps : List (List Nat)), 1 ≤ m → m ≤ n → o.length = 32 → Bytes o → Digs ps → ps.length = lenC m n b → ((foldC m n b o ps).1.length = 32 ∧ Bytes (foldC m n b o ps).1) ∧ (foldC m n b o ps).2.length = 32 ∧ Bytes (foldC m n b o ps).2 := by
  intro n
  induction n using Nat.strongRecOn with
  | ind n ih =>
    intro m b o ps h1 hm ho hB hd hl
    by_cases he : m = n
    · subst he
      rw [foldC_eq m b o ps h1]
      cases b with
      | true => exact ⟨⟨ho, hB⟩, ho, hB⟩
      | false =>
        rw [lenC_eq m false h1] at hl
        have := digs_at hd (k := 0) (by simp at hl; omega)
        exact ⟨this, this⟩
    · have hk := splitL_bd n (by omega)
      have hlt : m < n := by omega
      rcases Nat.lt_or_ge (splitL n) m with h | h
      · rw [foldC_hi m n b o ps h1 hlt h]; exact ⟨⟨nodeL_length _ _, sha_bytes _⟩, nodeL_length _ _, sha_bytes _⟩
      · rw [foldC_lo m n b o ps h1 hlt h]
        rw [lenC_lo m n b h1 hlt h] at hl
        exact ⟨(ih (splitL n) (by omega) m b o _ h1 h ho hB (digs_take hd _) (by rw [List.length_take]; omega)).1, nodeL_length _ _, sha_bytes _⟩
attribute [local go_sem ↓] ld25 st25 alc25_rule
attribute [local go_sem] alc25_run
set_option maxRecDepth 100000 in
set_option maxHeartbeats 4000000 in
theorem fold_any : ∀ (n m : Nat) (b : Bool) (o : List Nat) (ps : List (List Nat)) (w : World) (P : Option Addr) (k pc : Nat), 1 ≤ m → m ≤ n → n ≤ 65536 → o.length = 32 → Bytes o → ps.length = k → k = lenC m n b → k ≤ pc → pc ≤ 9223372036854775807 → Digs ps → LV w P (hcell ps) → Tabs w →
    Calls Tryd.prog 84 #[.int .i64 m, .int .i64 n, .bool b, .agg (u8s o), .slice P k pc] w fun e w' => e = .returned (.tuple #[.agg (u8s (foldC m n b o ps).1), .agg (u8s (foldC m n b o ps).2)]) ∧ Below w.heap.size w w' := by
  intro n
  induction n using Nat.strongRecOn with
  | ind n ih =>
    intro m b o ps w P k pc h1 hm hn ho hB hk hkl hkp hpc hd hP hT
    have IH := Lib.hid ih
    clear ih
    have HE := Lib.hid (fo_start w hT o)
    by_cases he : m = n
    · subst he
      rw [foldC_eq m b o ps h1]
      have t0 : ((m : Int) == (m : Int)) = true := by simp
      cases b with
      | true =>
        clear hP hT hd hk hB
        go_enter Tryd.func84, Tryd.ntmps84
        go_wp2_with fail
        generalize ((w.alloc (.cells (u8s o) 25)).alloc (.cells (u8s (zer 32)) 25)).alloc (.cells (u8s (zer 32)) 25) = W at *
        have M := Lib.hid (FsSt.mk (w := w) HE.out.o.drew HE.out.at_.b.drew)
        have EA := Lib.hid HE.out.a.drew
        have EB := Lib.hid HE.out.b.drew
        clear HE
        refine wp_region_inv (fun W => FsSt w W o) (.see [true, false, false, false] (.see [false, true, false, false] (.act [false, false, true, false] (.act [false, false, false, true] .stop)))) (by kernel_rfl) (by kernel_rfl) (fun _ _ d _ _ h => by cases d <;> exact h) M.out ?_
        generalize W.drew = V at *
        refine sw_see (v := .agg (u8s o)) (by rfl) (by rfl) (fun V hV => ?_) ?_
        · have l := load25_run hV.o ho
          go_simp
        refine sw_see (v := .agg (u8s o)) (by rfl) (by rfl) (fun V hV => ?_) ?_
        · have l := load25_run hV.o ho
          go_simp
        refine sw_act fun K2 hK2 => ?_
        simp only [pickM]
        have s1 := store25_run EA.out rfl ho
        go_wp2_with fail
        obtain ⟨x1, hx⟩ : ∃ X, X = World.setRow V (w.heap.size + 1) (u8s o) := ⟨_, rfl⟩
        rw [← hx]
        have hS : FsSt w x1 o := by rw [hx]; exact ⟨M.out.o.farRow (by omega) _, below_setRow' M.out.b (by omega) _⟩
        have EA2 := Lib.hid (show Blk x1 (w.heap.size + 1) 25 (u8s o) by rw [hx]; exact EA.out.setRow _)
        have EB2 := Lib.hid (show Blk x1 (w.heap.size + 1 + 1) 25 _ by rw [hx]; exact EB.out.farRow (by omega) _)
        clear hx s1 EA EB M
        have EA := EA2
        have EB := EB2
        clear EA2 EB2
        have M := Lib.hid hS
        go_wp2_with fail
        refine hK2.out _ _ hS ?_
        clear hK2 K2 hS
        refine sw_act fun K2 hK2 => ?_
        simp only [pickM]
        have s1 := store25_run EB.out rfl ho
        go_wp2_with fail
        obtain ⟨x2, hx⟩ : ∃ X, X = World.setRow x1 (w.heap.size + 1 + 1) (u8s o) := ⟨_, rfl⟩
        rw [← hx]
        have hS : FsSt w x2 o := by rw [hx]; exact ⟨M.out.o.farRow (by omega) _, below_setRow' M.out.b (by omega) _⟩
        have EA2 := Lib.hid (show Blk x2 (w.heap.size + 1) 25 _ by rw [hx]; exact EA.out.farRow (by omega) _)
        have EB2 := Lib.hid (show Blk x2 (w.heap.size + 1 + 1) 25 (u8s o) by rw [hx]; exact EB.out.setRow _)
        clear hx s1 EA EB M
        have EA := EA2
        have EB := EB2
        clear EA2 EB2
        have M := Lib.hid hS
        go_wp2_with fail
        refine hK2.out _ _ hS ?_
        clear hK2 K2 hS
        change Exit.then _ _ _ _ _
        go_wp2_with fail
        exact fo_ret (p := 10) (u := 11) rfl ho ho rfl rfl rfl EA.out EB.out M.out.b
      | false =>
        rw [lenC_eq m false h1] at hkl
        obtain rfl : k = 1 := by simpa using hkl
        have hl0 := digs_at hd (k := 0) (by omega)
        have hne := hcell_ne hd (by omega)
        cases P with
        | none => exact absurd (hP.1 rfl) hne
        | some pd =>
        obtain ⟨pg, po, rfl, hpg⟩ := lv_spot hP hne
        have HLd := Lib.hid (fun W (s : Below w.heap.size w W) => lv_dig (hP.below s) hd 0 (by omega) Tryd.underlying25 dsize25)
        rw [show po + 0 * 32 = po by omega] at HLd
        clear hP hT hd hk hB hne
        generalize ps.getD 0 [] = last at *
        have HL0 := Lib.hid hl0
        clear hl0 hkl
        go_enter Tryd.func84, Tryd.ntmps84
        go_wp2_with fail
        generalize ((w.alloc (.cells (u8s o) 25)).alloc (.cells (u8s (zer 32)) 25)).alloc (.cells (u8s (zer 32)) 25) = W at *
        have M := Lib.hid (FsSt.mk (w := w) HE.out.o.drew HE.out.at_.b.drew)
        have EA := Lib.hid HE.out.a.drew
        have EB := Lib.hid HE.out.b.drew
        clear HE
        refine wp_region_inv (fun W => FsSt w W o) (.still [true, false, false, true, false, false, false, false] (.see [false, true, false, false, false, false, false, false] (.see [false, false, true, false, false, false, false, false] (.see [false, false, false, false, true, false, false, false] (.see [false, false, false, false, false, true, false, false] (.act [false, false, false, false, false, false, true, false] (.act [false, false, false, false, false, false, false, true] .stop))))))) (by kernel_rfl) (by kernel_rfl) (fun _ _ d _ _ h => by cases d <;> exact h) M.out ?_
        generalize W.drew = V at *
        refine sw_still fun K0 hK0 => ?_
        simp only [pickM]
        go_wp2_with fail
        refine hK0.out _ ?_
        clear hK0 K0
        refine sw_see (v := (.pointer (some ⟨pg, po, none⟩))) (by rfl) (by rfl) (fun V hV => ?_) ?_
        · go_simp
        refine sw_see (v := .agg (u8s last)) (by rfl) (by rfl) (fun V hV => ?_) ?_
        · have l := HLd.out V hV.b
          go_simp
        refine sw_see (v := (.pointer (some ⟨pg, po, none⟩))) (by rfl) (by rfl) (fun V hV => ?_) ?_
        · go_simp
        refine sw_see (v := .agg (u8s last)) (by rfl) (by rfl) (fun V hV => ?_) ?_
        · have l := HLd.out V hV.b
          go_simp
        refine sw_act fun K2 hK2 => ?_
        simp only [pickM]
        have s1 := store25_run EA.out rfl HL0.out.1
        go_wp2_with fail
        obtain ⟨x1, hx⟩ : ∃ X, X = World.setRow V (w.heap.size + 1) (u8s last) := ⟨_, rfl⟩
        rw [← hx]
        have hS : FsSt w x1 o := by rw [hx]; exact ⟨M.out.o.farRow (by omega) _, below_setRow' M.out.b (by omega) _⟩
        have EA2 := Lib.hid (show Blk x1 (w.heap.size + 1) 25 (u8s last) by rw [hx]; exact EA.out.setRow _)
        have EB2 := Lib.hid (show Blk x1 (w.heap.size + 1 + 1) 25 _ by rw [hx]; exact EB.out.farRow (by omega) _)
        clear hx s1 EA EB M
        have EA := EA2
        have EB := EB2
        clear EA2 EB2
        have M := Lib.hid hS
        go_wp2_with fail
        refine hK2.out _ _ hS ?_
        clear hK2 K2 hS
        refine sw_act fun K2 hK2 => ?_
        simp only [pickM]
        have s1 := store25_run EB.out rfl HL0.out.1
        go_wp2_with fail
        obtain ⟨x2, hx⟩ : ∃ X, X = World.setRow x1 (w.heap.size + 1 + 1) (u8s last) := ⟨_, rfl⟩
        rw [← hx]
        have hS : FsSt w x2 o := by rw [hx]; exact ⟨M.out.o.farRow (by omega) _, below_setRow' M.out.b (by omega) _⟩
        have EA2 := Lib.hid (show Blk x2 (w.heap.size + 1) 25 _ by rw [hx]; exact EA.out.farRow (by omega) _)
        have EB2 := Lib.hid (show Blk x2 (w.heap.size + 1 + 1) 25 (u8s last) by rw [hx]; exact EB.out.setRow _)
        clear hx s1 EA EB M
        have EA := EA2
        have EB := EB2
        clear EA2 EB2
        have M := Lib.hid hS
        go_wp2_with fail
        refine hK2.out _ _ hS ?_
        clear hK2 K2 hS
        change Exit.then _ _ _ _ _
        go_wp2_with fail
        exact fo_ret (p := 10) (u := 11) rfl HL0.out.1 HL0.out.1 rfl rfl rfl EA.out EB.out M.out.b
    · have hlt : m < n := by omega
      have hkk := splitL_bd n (by omega)
      have t0 : ((m : Int) == (n : Int)) = false := by rw [beq_eq_false_iff_ne]; omega
      have HK := Lib.hid (fun W => msplit_any n (by omega) W)
      have hk1 : 1 ≤ k := by
        rw [hkl]
        rcases Nat.lt_or_ge (splitL n) m with h | h
        · rw [lenC_hi m n b h1 hlt h]; omega
        · rw [lenC_lo m n b h1 hlt h]; omega
      obtain ⟨q, rfl⟩ : ∃ q, k = q + 1 := ⟨k - 1, by omega⟩
      have hql : (ps.take q).length = q := by rw [List.length_take, hk]; omega
      have hlast := (digs_at hd (k := q) (by omega))
      have hne := hcell_ne hd (by omega)
      cases P with
      | none => exact absurd (hP.1 rfl) hne
      | some pd =>
      obtain ⟨pg, po, rfl, hpg⟩ := lv_spot hP hne
      have HLd := Lib.hid (fun W (s : At w W) => lv_dig (hP.below s.b) hd q (by omega) Tryd.underlying25 dsize25)
      have sl := fun W => sl67_h (some ⟨pg, po, none⟩) (q + 1) pc q (by omega) W
      have hkI : ((q + 1 : Nat) : Int) = (q : Int) + 1 := by omega
      by_cases hlo : m ≤ splitL n
      · have hfl := foldC_lo m n b o ps h1 hlt hlo
        rw [hk, show q + 1 - 1 = q by omega] at hfl
        rw [lenC_lo m n b h1 hlt hlo] at hkl
        have HC := Lib.hid (fun W (s : At w W) => IH.out (splitL n) (by omega) m b o (ps.take q) W (some ⟨pg, po, none⟩) q pc h1 hlo (by omega) ho hB hql (by omega) (by omega) hpc (digs_take hd q) (lv_htake (hP.below s.b) hd q) s.t)
        have hxo := foldC_ok (splitL n) m b o (ps.take q) h1 hlo ho hB (digs_take hd q) (by rw [hql]; omega)
        rw [hfl]
        clear hfl hP hd hk hB hne IH hkl hql hT
        generalize ps.getD q [] = last at *
        generalize foldC m (splitL n) b o (ps.take q) = r at *
        generalize splitL n = v at *
        obtain ⟨x, y⟩ := r
        simp only at hxo HC ⊢
        have HO := Lib.hid hxo
        have HL := Lib.hid hlast
        clear hxo hlast
        go_enter Tryd.func84, Tryd.ntmps84
        go_wp2_with fail
        generalize ((w.alloc (.cells (u8s o) 25)).alloc (.cells (u8s (zer 32)) 25)).alloc (.cells (u8s (zer 32)) 25) = W at *
        refine (HK.out _).mono ?_
        rintro e w1 ⟨rfl, rfl⟩
        go_upto_region 8 with (fail)
        go_cut [14, 15] (fun v14 v15 wx => ∃ gx gy : Nat, v14 = .pointer (some ⟨gx, 0, none⟩) ∧ v15 = .pointer (some ⟨gy, 0, none⟩) ∧ FoSt w wx o ∧ Blk wx gx 25 (u8s x) ∧ Blk wx gy 25 (u8s y) ∧ w.heap.size + 1 + 1 < gx ∧ w.heap.size + 1 + 1 < gy)
        case first =>
          have M := Lib.hid (HE.out.step (Below.refl _ _).drew)
          refine wp_region_inv (fun W => FoSt w W o) (.still [true, true, true, false, true, true, false, false, false, false, false, false, false, false, false] (.see [false, false, false, true, false, false, false, false, false, false, false, false, false, false, false] (.see [false, false, false, false, false, false, true, false, false, false, false, false, false, false, false] (.fork [false, false, false, false, false, false, false, true, false, false, false, false, false, false, false] (.still [false, false, false, false, false, false, false, false, true, true, true, false, false, false, false] (.fork [false, false, false, false, false, false, false, false, false, false, false, true, false, false, false] (.act [false, false, false, false, false, false, false, false, false, false, false, false, true, false, false] (.act [false, false, false, false, false, false, false, false, false, false, false, false, false, true, false] (.act [false, false, false, false, false, false, false, false, false, false, false, false, false, false, true] .stop))) (.act [false, false, false, false, false, false, false, false, false, false, false, false, true, false, false] (.act [false, false, false, false, false, false, false, false, false, false, false, true, false, false, false] (.act [false, false, false, false, false, false, false, false, false, false, false, false, false, true, false] (.act [false, false, false, false, false, false, false, false, false, false, false, false, false, false, true] .stop)))))) (.fork [false, false, false, false, false, false, false, false, false, false, false, true, false, false, false] (.fork [false, false, false, false, false, false, false, true, false, false, false, false, false, false, false] (.still [false, false, false, false, false, false, false, false, true, true, true, false, false, false, false] (.act [false, false, false, false, false, false, false, false, false, false, false, false, true, false, false] (.act [false, false, false, false, false, false, false, false, false, false, false, false, false, true, false] (.act [false, false, false, false, false, false, false, false, false, false, false, false, false, false, true] .stop)))) (.act [false, false, false, false, false, false, false, false, false, false, false, false, true, false, false] (.act [false, false, false, false, false, false, false, true, false, false, false, false, false, false, false] (.still [false, false, false, false, false, false, false, false, true, true, true, false, false, false, false] (.act [false, false, false, false, false, false, false, false, false, false, false, false, false, true, false] (.act [false, false, false, false, false, false, false, false, false, false, false, false, false, false, true] .stop)))))) (.act [false, false, false, false, false, false, false, false, false, false, false, false, true, false, false] (.fork [false, false, false, false, false, false, false, true, false, false, false, false, false, false, false] (.still [false, false, false, false, false, false, false, false, true, true, true, false, false, false, false] (.act [false, false, false, false, false, false, false, false, false, false, false, true, false, false, false] (.act [false, false, false, false, false, false, false, false, false, false, false, false, false, true, false] (.act [false, false, false, false, false, false, false, false, false, false, false, false, false, false, true] .stop)))) (.act [false, false, false, false, false, false, false, false, false, false, false, true, false, false, false] (.act [false, false, false, false, false, false, false, true, false, false, false, false, false, false, false] (.still [false, false, false, false, false, false, false, false, true, true, true, false, false, false, false] (.act [false, false, false, false, false, false, false, false, false, false, false, false, false, true, false] (.act [false, false, false, false, false, false, false, false, false, false, false, false, false, false, true] .stop)))))))))))) (by kernel_rfl) (by kernel_rfl) (fun _ _ d _ _ h => by cases d <;> exact h) M.out ?_
          generalize W.drew = V at *
          refine sw_still fun K0 hK0 => ?_
          simp only [pickM]
          go_wp2_with fail
          refine hK0.out _ ?_
          clear hK0 K0
          refine sw_see (v := .agg (u8s o)) (by rfl) (by rfl) (fun V hV => ?_) ?_
          · have l := load25_run hV.o ho
            go_simp
          refine sw_see (v := (.slice (some ⟨pg, po, none⟩) q pc)) (by rfl) (by rfl) (fun V hV => ?_) ?_
          · go_simp
          refine sw_fork (fun K2 hK2 => ?_) ?_
          · simp only [pickM]
            go_wp2_with fail
            refine (HC.out _ M.out.at_).mono ?_
            rintro e x1 ⟨rfl, hBelow⟩
            have hS := M.out.step hBelow
            clear M hBelow
            have M := Lib.hid hS
            go_wp2_with fail
            refine hK2.out _ _ hS ?_
            clear hK2 K2 hS
            refine sw_still fun K0 hK0 => ?_
            simp only [pickM]
            go_wp2_with fail
            refine hK0.out _ ?_
            clear hK0 K0
            refine sw_fork (fun K2 hK2 => ?_) ?_
            · simp only [pickM]
              go_wp2_with fail
              obtain ⟨x2, hx⟩ : ∃ X, X = World.alloc x1 (.cells (u8s (zer 32)) 25) := ⟨_, rfl⟩
              rw [← hx]
              have hBelow : Below x1.heap.size x1 x2 := by rw [hx]; exact (Below.refl _ _).alloc (Nat.le_refl _) _
              have EX := Lib.hid (show Blk x2 x1.heap.size 25 (u8s (zer 32)) by rw [hx]; exact Blk.new x1 25 _)
              have hnX : w.heap.size + 1 + 1 < x1.heap.size := M.out.b.lt
              have hS := M.out.step hBelow
              clear M hBelow hx
              have M := Lib.hid hS
              go_wp2_with fail
              refine hK2.out _ _ hS ?_
              clear hK2 K2 hS
              refine sw_act fun K2 hK2 => ?_
              simp only [pickM]
              go_wp2_with fail
              obtain ⟨x3, hx⟩ : ∃ X, X = World.alloc x2 (.cells (u8s (zer 32)) 25) := ⟨_, rfl⟩
              rw [← hx]
              have hBelow : Below x2.heap.size x2 x3 := by rw [hx]; exact (Below.refl _ _).alloc (Nat.le_refl _) _
              have EY := Lib.hid (show Blk x3 x2.heap.size 25 (u8s (zer 32)) by rw [hx]; exact Blk.new x2 25 _)
              have hnY : w.heap.size + 1 + 1 < x2.heap.size := M.out.b.lt
              have hXY : x1.heap.size < x2.heap.size := EX.out.lt
              have EX := Lib.hid (EX.out.below hBelow EX.out.lt)
              have hS := M.out.step hBelow
              clear M hBelow hx
              have M := Lib.hid hS
              go_wp2_with fail
              refine hK2.out _ _ hS ?_
              clear hK2 K2 hS
              refine sw_act fun K2 hK2 => ?_
              simp only [pickM]
              have s1 := store25_run EX.out rfl HO.out.1.1
              go_wp2_with fail
              obtain ⟨x4, hx⟩ : ∃ X, X = World.setRow x3 x1.heap.size (u8s x) := ⟨_, rfl⟩
              rw [← hx]
              have hS : FoSt w x4 o := by rw [hx]; exact M.out.row hnX _
              have E2 := Lib.hid (show Blk x4 x1.heap.size 25 (u8s x) by rw [hx]; exact EX.out.setRow _)
              have E3 := Lib.hid (show Blk x4 x2.heap.size 25 _ by rw [hx]; exact EY.out.farRow (by omega) _)
              clear hx s1 EX EY M
              have EX := E2
              have EY := E3
              clear E2 E3
              have M := Lib.hid hS
              go_wp2_with fail
              refine hK2.out _ _ hS ?_
              clear hK2 K2 hS
              refine sw_act fun K2 hK2 => ?_
              simp only [pickM]
              have s1 := store25_run EY.out rfl HO.out.2.1
              go_wp2_with fail
              obtain ⟨x5, hx⟩ : ∃ X, X = World.setRow x4 x2.heap.size (u8s y) := ⟨_, rfl⟩
              rw [← hx]
              have hS : FoSt w x5 o := by rw [hx]; exact M.out.row hnY _
              have E2 := Lib.hid (show Blk x5 x2.heap.size 25 (u8s y) by rw [hx]; exact EY.out.setRow _)
              have E3 := Lib.hid (show Blk x5 x1.heap.size 25 _ by rw [hx]; exact EX.out.farRow (by omega) _)
              clear hx s1 EX EY M
              have EY := E2
              have EX := E3
              clear E2 E3
              have M := Lib.hid hS
              go_wp2_with fail
              refine hK2.out _ _ hS ?_
              clear hK2 K2 hS
              change Exit.then _ _ _ _ _
              go_wp2_with fail
              go_meet
              exact ⟨x1.heap.size, x2.heap.size, rfl, rfl, M.out, EX.out, EY.out, hnX, hnY⟩
            · refine sw_act fun K2 hK2 => ?_
              simp only [pickM]
              go_wp2_with fail
              obtain ⟨x6, hx⟩ : ∃ X, X = World.alloc x1 (.cells (u8s (zer 32)) 25) := ⟨_, rfl⟩
              rw [← hx]
              have hBelow : Below x1.heap.size x1 x6 := by rw [hx]; exact (Below.refl _ _).alloc (Nat.le_refl _) _
              have EY := Lib.hid (show Blk x6 x1.heap.size 25 (u8s (zer 32)) by rw [hx]; exact Blk.new x1 25 _)
              have hnY : w.heap.size + 1 + 1 < x1.heap.size := M.out.b.lt
              have hS := M.out.step hBelow
              clear M hBelow hx
              have M := Lib.hid hS
              go_wp2_with fail
              refine hK2.out _ _ hS ?_
              clear hK2 K2 hS
              refine sw_act fun K2 hK2 => ?_
              simp only [pickM]
              go_wp2_with fail
              obtain ⟨x7, hx⟩ : ∃ X, X = World.alloc x6 (.cells (u8s (zer 32)) 25) := ⟨_, rfl⟩
              rw [← hx]
              have hBelow : Below x6.heap.size x6 x7 := by rw [hx]; exact (Below.refl _ _).alloc (Nat.le_refl _) _
              have EX := Lib.hid (show Blk x7 x6.heap.size 25 (u8s (zer 32)) by rw [hx]; exact Blk.new x6 25 _)
              have hnX : w.heap.size + 1 + 1 < x6.heap.size := M.out.b.lt
              have hXY : x1.heap.size < x6.heap.size := EY.out.lt
              have EY := Lib.hid (EY.out.below hBelow EY.out.lt)
              have hS := M.out.step hBelow
              clear M hBelow hx
              have M := Lib.hid hS
              go_wp2_with fail
              refine hK2.out _ _ hS ?_
              clear hK2 K2 hS
              refine sw_act fun K2 hK2 => ?_
              simp only [pickM]
              have s1 := store25_run EX.out rfl HO.out.1.1
              go_wp2_with fail
              obtain ⟨x8, hx⟩ : ∃ X, X = World.setRow x7 x6.heap.size (u8s x) := ⟨_, rfl⟩
              rw [← hx]
              have hS : FoSt w x8 o := by rw [hx]; exact M.out.row hnX _
              have E2 := Lib.hid (show Blk x8 x6.heap.size 25 (u8s x) by rw [hx]; exact EX.out.setRow _)
              have E3 := Lib.hid (show Blk x8 x1.heap.size 25 _ by rw [hx]; exact EY.out.farRow (by omega) _)
              clear hx s1 EX EY M
              have EX := E2
              have EY := E3
              clear E2 E3
              have M := Lib.hid hS
              go_wp2_with fail
              refine hK2.out _ _ hS ?_
              clear hK2 K2 hS
              refine sw_act fun K2 hK2 => ?_
              simp only [pickM]
              have s1 := store25_run EY.out rfl HO.out.2.1
              go_wp2_with fail
              obtain ⟨x9, hx⟩ : ∃ X, X = World.setRow x8 x1.heap.size (u8s y) := ⟨_, rfl⟩
              rw [← hx]
              have hS : FoSt w x9 o := by rw [hx]; exact M.out.row hnY _
              have E2 := Lib.hid (show Blk x9 x1.heap.size 25 (u8s y) by rw [hx]; exact EY.out.setRow _)
              have E3 := Lib.hid (show Blk x9 x6.heap.size 25 _ by rw [hx]; exact EX.out.farRow (by omega) _)
              clear hx s1 EX EY M
              have EY := E2
              have EX := E3
              clear E2 E3
              have M := Lib.hid hS
              go_wp2_with fail
              refine hK2.out _ _ hS ?_
              clear hK2 K2 hS
              change Exit.then _ _ _ _ _
              go_wp2_with fail
              go_meet
              exact ⟨x6.heap.size, x1.heap.size, rfl, rfl, M.out, EX.out, EY.out, hnX, hnY⟩
          refine sw_fork (fun K2 hK2 => ?_) ?_
          · simp only [pickM]
            go_wp2_with fail
            obtain ⟨x10, hx⟩ : ∃ X, X = World.alloc V (.cells (u8s (zer 32)) 25) := ⟨_, rfl⟩
            rw [← hx]
            have hBelow : Below V.heap.size V x10 := by rw [hx]; exact (Below.refl _ _).alloc (Nat.le_refl _) _
            have EX := Lib.hid (show Blk x10 V.heap.size 25 (u8s (zer 32)) by rw [hx]; exact Blk.new V 25 _)
            have hnX : w.heap.size + 1 + 1 < V.heap.size := M.out.b.lt
            have hS := M.out.step hBelow
            clear M hBelow hx
            have M := Lib.hid hS
            go_wp2_with fail
            refine hK2.out _ _ hS ?_
            clear hK2 K2 hS
            refine sw_fork (fun K2 hK2 => ?_) ?_
            · simp only [pickM]
              go_wp2_with fail
              refine (HC.out _ M.out.at_).mono ?_
              rintro e x11 ⟨rfl, hBelow⟩
              have EX := Lib.hid (EX.out.below hBelow EX.out.lt)
              have hS := M.out.step hBelow
              clear M hBelow
              have M := Lib.hid hS
              go_wp2_with fail
              refine hK2.out _ _ hS ?_
              clear hK2 K2 hS
              refine sw_still fun K0 hK0 => ?_
              simp only [pickM]
              go_wp2_with fail
              refine hK0.out _ ?_
              clear hK0 K0
              refine sw_act fun K2 hK2 => ?_
              simp only [pickM]
              go_wp2_with fail
              obtain ⟨x12, hx⟩ : ∃ X, X = World.alloc x11 (.cells (u8s (zer 32)) 25) := ⟨_, rfl⟩
              rw [← hx]
              have hBelow : Below x11.heap.size x11 x12 := by rw [hx]; exact (Below.refl _ _).alloc (Nat.le_refl _) _
              have EY := Lib.hid (show Blk x12 x11.heap.size 25 (u8s (zer 32)) by rw [hx]; exact Blk.new x11 25 _)
              have hnY : w.heap.size + 1 + 1 < x11.heap.size := M.out.b.lt
              have hXY : V.heap.size < x11.heap.size := EX.out.lt
              have EX := Lib.hid (EX.out.below hBelow EX.out.lt)
              have hS := M.out.step hBelow
              clear M hBelow hx
              have M := Lib.hid hS
              go_wp2_with fail
              refine hK2.out _ _ hS ?_
              clear hK2 K2 hS
              refine sw_act fun K2 hK2 => ?_
              simp only [pickM]
              have s1 := store25_run EX.out rfl HO.out.1.1
              go_wp2_with fail
              obtain ⟨x13, hx⟩ : ∃ X, X = World.setRow x12 V.heap.size (u8s x) := ⟨_, rfl⟩
              rw [← hx]
              have hS : FoSt w x13 o := by rw [hx]; exact M.out.row hnX _
              have E2 := Lib.hid (show Blk x13 V.heap.size 25 (u8s x) by rw [hx]; exact EX.out.setRow _)
              have E3 := Lib.hid (show Blk x13 x11.heap.size 25 _ by rw [hx]; exact EY.out.farRow (by omega) _)
              clear hx s1 EX EY M
              have EX := E2
              have EY := E3
              clear E2 E3
              have M := Lib.hid hS
              go_wp2_with fail
              refine hK2.out _ _ hS ?_
              clear hK2 K2 hS
              refine sw_act fun K2 hK2 => ?_
              simp only [pickM]
              have s1 := store25_run EY.out rfl HO.out.2.1
              go_wp2_with fail
              obtain ⟨x14, hx⟩ : ∃ X, X = World.setRow x13 x11.heap.size (u8s y) := ⟨_, rfl⟩
              rw [← hx]
              have hS : FoSt w x14 o := by rw [hx]; exact M.out.row hnY _
              have E2 := Lib.hid (show Blk x14 x11.heap.size 25 (u8s y) by rw [hx]; exact EY.out.setRow _)
              have E3 := Lib.hid (show Blk x14 V.heap.size 25 _ by rw [hx]; exact EX.out.farRow (by omega) _)
              clear hx s1 EX EY M
              have EY := E2
              have EX := E3
              clear E2 E3
              have M := Lib.hid hS
              go_wp2_with fail
              refine hK2.out _ _ hS ?_
              clear hK2 K2 hS
              change Exit.then _ _ _ _ _
              go_wp2_with fail
              go_meet
              exact ⟨V.heap.size, x11.heap.size, rfl, rfl, M.out, EX.out, EY.out, hnX, hnY⟩
            · refine sw_act fun K2 hK2 => ?_
              simp only [pickM]
              go_wp2_with fail
              obtain ⟨x15, hx⟩ : ∃ X, X = World.alloc x10 (.cells (u8s (zer 32)) 25) := ⟨_, rfl⟩
              rw [← hx]
              have hBelow : Below x10.heap.size x10 x15 := by rw [hx]; exact (Below.refl _ _).alloc (Nat.le_refl _) _
              have EY := Lib.hid (show Blk x15 x10.heap.size 25 (u8s (zer 32)) by rw [hx]; exact Blk.new x10 25 _)
              have hnY : w.heap.size + 1 + 1 < x10.heap.size := M.out.b.lt
              have hXY : V.heap.size < x10.heap.size := EX.out.lt
              have EX := Lib.hid (EX.out.below hBelow EX.out.lt)
              have hS := M.out.step hBelow
              clear M hBelow hx
              have M := Lib.hid hS
              go_wp2_with fail
              refine hK2.out _ _ hS ?_
              clear hK2 K2 hS
              refine sw_act fun K2 hK2 => ?_
              simp only [pickM]
              go_wp2_with fail
              refine (HC.out _ M.out.at_).mono ?_
              rintro e x16 ⟨rfl, hBelow⟩
              have EX := Lib.hid (EX.out.below hBelow EX.out.lt)
              have EY := Lib.hid (EY.out.below hBelow EY.out.lt)
              have hS := M.out.step hBelow
              clear M hBelow
              have M := Lib.hid hS
              go_wp2_with fail
              refine hK2.out _ _ hS ?_
              clear hK2 K2 hS
              refine sw_still fun K0 hK0 => ?_
              simp only [pickM]
              go_wp2_with fail
              refine hK0.out _ ?_
              clear hK0 K0
              refine sw_act fun K2 hK2 => ?_
              simp only [pickM]
              have s1 := store25_run EX.out rfl HO.out.1.1
              go_wp2_with fail
              obtain ⟨x17, hx⟩ : ∃ X, X = World.setRow x16 V.heap.size (u8s x) := ⟨_, rfl⟩
              rw [← hx]
              have hS : FoSt w x17 o := by rw [hx]; exact M.out.row hnX _
              have E2 := Lib.hid (show Blk x17 V.heap.size 25 (u8s x) by rw [hx]; exact EX.out.setRow _)
              have E3 := Lib.hid (show Blk x17 x10.heap.size 25 _ by rw [hx]; exact EY.out.farRow (by omega) _)
              clear hx s1 EX EY M
              have EX := E2
              have EY := E3
              clear E2 E3
              have M := Lib.hid hS
              go_wp2_with fail
              refine hK2.out _ _ hS ?_
              clear hK2 K2 hS
              refine sw_act fun K2 hK2 => ?_
              simp only [pickM]
              have s1 := store25_run EY.out rfl HO.out.2.1
              go_wp2_with fail
              obtain ⟨x18, hx⟩ : ∃ X, X = World.setRow x17 x10.heap.size (u8s y) := ⟨_, rfl⟩
              rw [← hx]
              have hS : FoSt w x18 o := by rw [hx]; exact M.out.row hnY _
              have E2 := Lib.hid (show Blk x18 x10.heap.size 25 (u8s y) by rw [hx]; exact EY.out.setRow _)
              have E3 := Lib.hid (show Blk x18 V.heap.size 25 _ by rw [hx]; exact EX.out.farRow (by omega) _)
              clear hx s1 EX EY M
              have EY := E2
              have EX := E3
              clear E2 E3
              have M := Lib.hid hS
              go_wp2_with fail
              refine hK2.out _ _ hS ?_
              clear hK2 K2 hS
              change Exit.then _ _ _ _ _
              go_wp2_with fail
              go_meet
              exact ⟨V.heap.size, x10.heap.size, rfl, rfl, M.out, EX.out, EY.out, hnX, hnY⟩
          · refine sw_act fun K2 hK2 => ?_
            simp only [pickM]
            go_wp2_with fail
            obtain ⟨x19, hx⟩ : ∃ X, X = World.alloc V (.cells (u8s (zer 32)) 25) := ⟨_, rfl⟩
            rw [← hx]
            have hBelow : Below V.heap.size V x19 := by rw [hx]; exact (Below.refl _ _).alloc (Nat.le_refl _) _
            have EY := Lib.hid (show Blk x19 V.heap.size 25 (u8s (zer 32)) by rw [hx]; exact Blk.new V 25 _)
            have hnY : w.heap.size + 1 + 1 < V.heap.size := M.out.b.lt
            have hS := M.out.step hBelow
            clear M hBelow hx
            have M := Lib.hid hS
            go_wp2_with fail
            refine hK2.out _ _ hS ?_
            clear hK2 K2 hS
            refine sw_fork (fun K2 hK2 => ?_) ?_
            · simp only [pickM]
              go_wp2_with fail
              refine (HC.out _ M.out.at_).mono ?_
              rintro e x20 ⟨rfl, hBelow⟩
              have EY := Lib.hid (EY.out.below hBelow EY.out.lt)
              have hS := M.out.step hBelow
              clear M hBelow
              have M := Lib.hid hS
              go_wp2_with fail
              refine hK2.out _ _ hS ?_
              clear hK2 K2 hS
              refine sw_still fun K0 hK0 => ?_
              simp only [pickM]
              go_wp2_with fail
              refine hK0.out _ ?_
              clear hK0 K0
              refine sw_act fun K2 hK2 => ?_
              simp only [pickM]
              go_wp2_with fail
              obtain ⟨x21, hx⟩ : ∃ X, X = World.alloc x20 (.cells (u8s (zer 32)) 25) := ⟨_, rfl⟩
              rw [← hx]
              have hBelow : Below x20.heap.size x20 x21 := by rw [hx]; exact (Below.refl _ _).alloc (Nat.le_refl _) _
              have EX := Lib.hid (show Blk x21 x20.heap.size 25 (u8s (zer 32)) by rw [hx]; exact Blk.new x20 25 _)
              have hnX : w.heap.size + 1 + 1 < x20.heap.size := M.out.b.lt
              have hXY : V.heap.size < x20.heap.size := EY.out.lt
              have EY := Lib.hid (EY.out.below hBelow EY.out.lt)
              have hS := M.out.step hBelow
              clear M hBelow hx
              have M := Lib.hid hS
              go_wp2_with fail
              refine hK2.out _ _ hS ?_
              clear hK2 K2 hS
              refine sw_act fun K2 hK2 => ?_
              simp only [pickM]
              have s1 := store25_run EX.out rfl HO.out.1.1
              go_wp2_with fail
              obtain ⟨x22, hx⟩ : ∃ X, X = World.setRow x21 x20.heap.size (u8s x) := ⟨_, rfl⟩
              rw [← hx]
              have hS : FoSt w x22 o := by rw [hx]; exact M.out.row hnX _
              have E2 := Lib.hid (show Blk x22 x20.heap.size 25 (u8s x) by rw [hx]; exact EX.out.setRow _)
              have E3 := Lib.hid (show Blk x22 V.heap.size 25 _ by rw [hx]; exact EY.out.farRow (by omega) _)
              clear hx s1 EX EY M
              have EX := E2
              have EY := E3
              clear E2 E3
              have M := Lib.hid hS
              go_wp2_with fail
              refine hK2.out _ _ hS ?_
              clear hK2 K2 hS
              refine sw_act fun K2 hK2 => ?_
              simp only [pickM]
              have s1 := store25_run EY.out rfl HO.out.2.1
              go_wp2_with fail
              obtain ⟨x23, hx⟩ : ∃ X, X = World.setRow x22 V.heap.size (u8s y) := ⟨_, rfl⟩
              rw [← hx]
              have hS : FoSt w x23 o := by rw [hx]; exact M.out.row hnY _
              have E2 := Lib.hid (show Blk x23 V.heap.size 25 (u8s y) by rw [hx]; exact EY.out.setRow _)
              have E3 := Lib.hid (show Blk x23 x20.heap.size 25 _ by rw [hx]; exact EX.out.farRow (by omega) _)
              clear hx s1 EX EY M
              have EY := E2
              have EX := E3
              clear E2 E3
              have M := Lib.hid hS
              go_wp2_with fail
              refine hK2.out _ _ hS ?_
              clear hK2 K2 hS
              change Exit.then _ _ _ _ _
              go_wp2_with fail
              go_meet
              exact ⟨x20.heap.size, V.heap.size, rfl, rfl, M.out, EX.out, EY.out, hnX, hnY⟩
            · refine sw_act fun K2 hK2 => ?_
              simp only [pickM]
              go_wp2_with fail
              obtain ⟨x24, hx⟩ : ∃ X, X = World.alloc x19 (.cells (u8s (zer 32)) 25) := ⟨_, rfl⟩
              rw [← hx]
              have hBelow : Below x19.heap.size x19 x24 := by rw [hx]; exact (Below.refl _ _).alloc (Nat.le_refl _) _
              have EX := Lib.hid (show Blk x24 x19.heap.size 25 (u8s (zer 32)) by rw [hx]; exact Blk.new x19 25 _)
              have hnX : w.heap.size + 1 + 1 < x19.heap.size := M.out.b.lt
              have hXY : V.heap.size < x19.heap.size := EY.out.lt
              have EY := Lib.hid (EY.out.below hBelow EY.out.lt)
              have hS := M.out.step hBelow
              clear M hBelow hx
              have M := Lib.hid hS
              go_wp2_with fail
              refine hK2.out _ _ hS ?_
              clear hK2 K2 hS
              refine sw_act fun K2 hK2 => ?_
              simp only [pickM]
              go_wp2_with fail
              refine (HC.out _ M.out.at_).mono ?_
              rintro e x25 ⟨rfl, hBelow⟩
              have EX := Lib.hid (EX.out.below hBelow EX.out.lt)
              have EY := Lib.hid (EY.out.below hBelow EY.out.lt)
              have hS := M.out.step hBelow
              clear M hBelow
              have M := Lib.hid hS
              go_wp2_with fail
              refine hK2.out _ _ hS ?_
              clear hK2 K2 hS
              refine sw_still fun K0 hK0 => ?_
              simp only [pickM]
              go_wp2_with fail
              refine hK0.out _ ?_
              clear hK0 K0
              refine sw_act fun K2 hK2 => ?_
              simp only [pickM]
              have s1 := store25_run EX.out rfl HO.out.1.1
              go_wp2_with fail
              obtain ⟨x26, hx⟩ : ∃ X, X = World.setRow x25 x19.heap.size (u8s x) := ⟨_, rfl⟩
              rw [← hx]
              have hS : FoSt w x26 o := by rw [hx]; exact M.out.row hnX _
              have E2 := Lib.hid (show Blk x26 x19.heap.size 25 (u8s x) by rw [hx]; exact EX.out.setRow _)
              have E3 := Lib.hid (show Blk x26 V.heap.size 25 _ by rw [hx]; exact EY.out.farRow (by omega) _)
              clear hx s1 EX EY M
              have EX := E2
              have EY := E3
              clear E2 E3
              have M := Lib.hid hS
              go_wp2_with fail
              refine hK2.out _ _ hS ?_
              clear hK2 K2 hS
              refine sw_act fun K2 hK2 => ?_
              simp only [pickM]
              have s1 := store25_run EY.out rfl HO.out.2.1
              go_wp2_with fail
              obtain ⟨x27, hx⟩ : ∃ X, X = World.setRow x26 V.heap.size (u8s y) := ⟨_, rfl⟩
              rw [← hx]
              have hS : FoSt w x27 o := by rw [hx]; exact M.out.row hnY _
              have E2 := Lib.hid (show Blk x27 V.heap.size 25 (u8s y) by rw [hx]; exact EY.out.setRow _)
              have E3 := Lib.hid (show Blk x27 x19.heap.size 25 _ by rw [hx]; exact EX.out.farRow (by omega) _)
              clear hx s1 EX EY M
              have EY := E2
              have EX := E3
              clear E2 E3
              have M := Lib.hid hS
              go_wp2_with fail
              refine hK2.out _ _ hS ?_
              clear hK2 K2 hS
              change Exit.then _ _ _ _ _
              go_wp2_with fail
              go_meet
              exact ⟨x19.heap.size, V.heap.size, rfl, rfl, M.out, EX.out, EY.out, hnX, hnY⟩
        case rest =>
        obtain ⟨gx, gy, rfl, rfl, F, Ex, Ey, hx3, hy3⟩ := hcut
        go_upto_region 9 with (fail)
        have M := Lib.hid (F9.mk (w := w) Ex.drew Ey.drew F.at_.drew)
        have EA := Lib.hid F.a.drew
        have EB := Lib.hid F.b.drew
        clear Ex Ey F HE
        refine wp_region_inv (fun W => F9 w W gx gy x y) (.still [false, false, true, true, false, false, false, false, false] (.see [true, false, false, false, false, false, false, false, false] (.see [false, true, false, false, false, false, false, false, false] (.see [false, false, false, false, true, false, false, false, false] (.see [false, false, false, false, false, true, false, false, false] (.act [false, false, false, false, false, false, true, false, false] (.act [false, false, false, false, false, false, false, true, false] (.act [false, false, false, false, false, false, false, false, true] .stop)))))))) (by kernel_rfl) (by kernel_rfl) (fun _ _ d _ _ h => by cases d <;> exact h) M.out ?_
        generalize wc.drew = V at *
        refine sw_still fun K0 hK0 => ?_
        simp only [pickM]
        go_wp2_with fail
        refine hK0.out _ ?_
        clear hK0 K0
        refine sw_see (v := .agg (u8s x)) (by rfl) (by rfl) (fun V hV => ?_) ?_
        · have l := load25_run hV.x HO.out.1.1
          go_simp
        refine sw_see (v := .agg (u8s y)) (by rfl) (by rfl) (fun V hV => ?_) ?_
        · have l := load25_run hV.y HO.out.2.1
          go_simp
        refine sw_see (v := (.pointer (some ⟨pg, po + q * 32, none⟩))) (by rfl) (by rfl) (fun V hV => ?_) ?_
        · go_simp
          try (intro h; exfalso; omega)
        refine sw_see (v := .agg (u8s last)) (by rfl) (by rfl) (fun V hV => ?_) ?_
        · have l := HLd.out V hV.b
          go_simp
        refine sw_act fun K2 hK2 => ?_
        simp only [pickM]
        go_wp2_with fail
        refine (nodehash_any _ M.out.b.t y last HO.out.2.1 HL.out.1 HO.out.2.2 HL.out.2).mono ?_
        rintro e x1 ⟨rfl, hBelow⟩
        have EA := Lib.hid (EA.out.below hBelow EA.out.lt)
        have EB := Lib.hid (EB.out.below hBelow EB.out.lt)
        have hS := M.out.step hBelow
        clear M hBelow
        have M := Lib.hid hS
        go_wp2_with fail
        refine hK2.out _ _ hS ?_
        clear hK2 K2 hS
        refine sw_act fun K2 hK2 => ?_
        simp only [pickM]
        have s1 := store25_run EA.out rfl HO.out.1.1
        go_wp2_with fail
        obtain ⟨x2, hx⟩ : ∃ X, X = World.setRow x1 (w.heap.size + 1) (u8s x) := ⟨_, rfl⟩
        rw [← hx]
        have hS : F9 w x2 gx gy x y := by rw [hx]; exact M.out.row (by omega) (by omega) hx3 hy3 _
        have E2 := Lib.hid (show Blk x2 (w.heap.size + 1) 25 (u8s x) by rw [hx]; exact EA.out.setRow _)
        have E3 := Lib.hid (show Blk x2 (w.heap.size + 1 + 1) 25 _ by rw [hx]; exact EB.out.farRow (by omega) _)
        clear hx s1 EA EB M
        have EA := E2
        have EB := E3
        clear E2 E3
        have M := Lib.hid hS
        go_wp2_with fail
        refine hK2.out _ _ hS ?_
        clear hK2 K2 hS
        refine sw_act fun K2 hK2 => ?_
        simp only [pickM]
        have s1 := store25_run EB.out rfl (nodeL_length y last)
        go_wp2_with fail
        obtain ⟨x3, hx⟩ : ∃ X, X = World.setRow x2 (w.heap.size + 1 + 1) (u8s (nodeL y last)) := ⟨_, rfl⟩
        rw [← hx]
        have hS : F9 w x3 gx gy x y := by rw [hx]; exact M.out.row (by omega) (by omega) hx3 hy3 _
        have E2 := Lib.hid (show Blk x3 (w.heap.size + 1 + 1) 25 (u8s (nodeL y last)) by rw [hx]; exact EB.out.setRow _)
        have E3 := Lib.hid (show Blk x3 (w.heap.size + 1) 25 _ by rw [hx]; exact EA.out.farRow (by omega) _)
        clear hx s1 EA EB M
        have EB := E2
        have EA := E3
        clear E2 E3
        have M := Lib.hid hS
        go_wp2_with fail
        refine hK2.out _ _ hS ?_
        clear hK2 K2 hS
        change Exit.then _ _ _ _ _
        go_wp2_with fail
        exact fo_ret (p := 10) (u := 11) rfl HO.out.1.1 (nodeL_length y last) rfl rfl rfl EA.out EB.out M.out.b.b
      · have hfl := foldC_hi m n b o ps h1 hlt (by omega)
        rw [hk, show q + 1 - 1 = q by omega] at hfl
        rw [lenC_hi m n b h1 hlt (by omega)] at hkl
        have hc := fun W (s : At w W) => IH.out (n - splitL n) (by omega) (m - splitL n) false o (ps.take q) W (some ⟨pg, po, none⟩) q pc (by omega) (by omega) (by omega) ho hB hql (by omega) (by omega) hpc (digs_take hd q) (lv_htake (hP.below s.b) hd q) s.t
        rw [show ((n - splitL n : Nat) : Int) = (n : Int) - (splitL n : Nat) by omega, show ((m - splitL n : Nat) : Int) = (m : Int) - (splitL n : Nat) by omega] at hc
        have HC := Lib.hid hc
        clear hc
        have hxo := foldC_ok (n - splitL n) (m - splitL n) false o (ps.take q) (by omega) (by omega) ho hB (digs_take hd q) (by rw [hql]; omega)
        rw [hfl]
        clear hfl hP hd hk hB hne IH hkl hql hT
        generalize ps.getD q [] = last at *
        generalize foldC (m - splitL n) (n - splitL n) false o (ps.take q) = r at *
        generalize splitL n = v at *
        obtain ⟨x, y⟩ := r
        simp only at hxo HC ⊢
        have HO := Lib.hid hxo
        have HL := Lib.hid hlast
        clear hxo hlast
        go_enter Tryd.func84, Tryd.ntmps84
        go_wp2_with fail
        generalize ((w.alloc (.cells (u8s o) 25)).alloc (.cells (u8s (zer 32)) 25)).alloc (.cells (u8s (zer 32)) 25) = W at *
        refine (HK.out _).mono ?_
        rintro e w1 ⟨rfl, rfl⟩
        go_upto_region 10 with (fail)
        go_cut [16, 17] (fun v14 v15 wx => ∃ gx gy : Nat, v14 = .pointer (some ⟨gx, 0, none⟩) ∧ v15 = .pointer (some ⟨gy, 0, none⟩) ∧ FoSt w wx o ∧ Blk wx gx 25 (u8s x) ∧ Blk wx gy 25 (u8s y) ∧ w.heap.size + 1 + 1 < gx ∧ w.heap.size + 1 + 1 < gy)
        case first =>
          have M := Lib.hid (HE.out.step (Below.refl _ _).drew)
          refine wp_region_inv (fun W => FoSt w W o) (.still [true, true, false, true, true, false, false, true, true, false, false, false, false, false, false, false, false, false] (.see [false, false, true, false, false, false, false, false, false, false, false, false, false, false, false, false, false, false] (.see [false, false, false, false, false, true, false, false, false, false, false, false, false, false, false, false, false, false] (.see [false, false, false, false, false, false, true, false, false, false, false, false, false, false, false, false, false, false] (.see [false, false, false, false, false, false, false, false, false, true, false, false, false, false, false, false, false, false] (.fork [false, false, false, false, false, false, false, false, false, false, true, false, false, false, false, false, false, false] (.still [false, false, false, false, false, false, false, false, false, false, false, true, true, true, false, false, false, false] (.fork [false, false, false, false, false, false, false, false, false, false, false, false, false, false, true, false, false, false] (.act [false, false, false, false, false, false, false, false, false, false, false, false, false, false, false, true, false, false] (.act [false, false, false, false, false, false, false, false, false, false, false, false, false, false, false, false, true, false] (.act [false, false, false, false, false, false, false, false, false, false, false, false, false, false, false, false, false, true] .stop))) (.act [false, false, false, false, false, false, false, false, false, false, false, false, false, false, false, true, false, false] (.act [false, false, false, false, false, false, false, false, false, false, false, false, false, false, true, false, false, false] (.act [false, false, false, false, false, false, false, false, false, false, false, false, false, false, false, false, true, false] (.act [false, false, false, false, false, false, false, false, false, false, false, false, false, false, false, false, false, true] .stop)))))) (.fork [false, false, false, false, false, false, false, false, false, false, false, false, false, false, true, false, false, false] (.fork [false, false, false, false, false, false, false, false, false, false, true, false, false, false, false, false, false, false] (.still [false, false, false, false, false, false, false, false, false, false, false, true, true, true, false, false, false, false] (.act [false, false, false, false, false, false, false, false, false, false, false, false, false, false, false, true, false, false] (.act [false, false, false, false, false, false, false, false, false, false, false, false, false, false, false, false, true, false] (.act [false, false, false, false, false, false, false, false, false, false, false, false, false, false, false, false, false, true] .stop)))) (.act [false, false, false, false, false, false, false, false, false, false, false, false, false, false, false, true, false, false] (.act [false, false, false, false, false, false, false, false, false, false, true, false, false, false, false, false, false, false] (.still [false, false, false, false, false, false, false, false, false, false, false, true, true, true, false, false, false, false] (.act [false, false, false, false, false, false, false, false, false, false, false, false, false, false, false, false, true, false] (.act [false, false, false, false, false, false, false, false, false, false, false, false, false, false, false, false, false, true] .stop)))))) (.act [false, false, false, false, false, false, false, false, false, false, false, false, false, false, false, true, false, false] (.fork [false, false, false, false, false, false, false, false, false, false, true, false, false, false, false, false, false, false] (.still [false, false, false, false, false, false, false, false, false, false, false, true, true, true, false, false, false, false] (.act [false, false, false, false, false, false, false, false, false, false, false, false, false, false, true, false, false, false] (.act [false, false, false, false, false, false, false, false, false, false, false, false, false, false, false, false, true, false] (.act [false, false, false, false, false, false, false, false, false, false, false, false, false, false, false, false, false, true] .stop)))) (.act [false, false, false, false, false, false, false, false, false, false, false, false, false, false, true, false, false, false] (.act [false, false, false, false, false, false, false, false, false, false, true, false, false, false, false, false, false, false] (.still [false, false, false, false, false, false, false, false, false, false, false, true, true, true, false, false, false, false] (.act [false, false, false, false, false, false, false, false, false, false, false, false, false, false, false, false, true, false] (.act [false, false, false, false, false, false, false, false, false, false, false, false, false, false, false, false, false, true] .stop)))))))))))))) (by kernel_rfl) (by kernel_rfl) (fun _ _ d _ _ h => by cases d <;> exact h) M.out ?_
          generalize W.drew = V at *
          refine sw_still fun K0 hK0 => ?_
          simp only [pickM]
          go_wp2_with fail
          refine hK0.out _ ?_
          clear hK0 K0
          refine sw_see (v := (.int .i64 ((m : Int) - v))) (by rfl) (by rfl) (fun V hV => ?_) ?_
          · go_simp
            exact IntWalk.i64_in _ (by omega)
          refine sw_see (v := (.int .i64 ((n : Int) - v))) (by rfl) (by rfl) (fun V hV => ?_) ?_
          · go_simp
            exact IntWalk.i64_in _ (by omega)
          refine sw_see (v := .agg (u8s o)) (by rfl) (by rfl) (fun V hV => ?_) ?_
          · have l := load25_run hV.o ho
            go_simp
          refine sw_see (v := (.slice (some ⟨pg, po, none⟩) q pc)) (by rfl) (by rfl) (fun V hV => ?_) ?_
          · go_simp
          refine sw_fork (fun K2 hK2 => ?_) ?_
          · simp only [pickM]
            go_wp2_with fail
            refine (HC.out _ M.out.at_).mono ?_
            rintro e x1 ⟨rfl, hBelow⟩
            have hS := M.out.step hBelow
            clear M hBelow
            have M := Lib.hid hS
            go_wp2_with fail
            refine hK2.out _ _ hS ?_
            clear hK2 K2 hS
            refine sw_still fun K0 hK0 => ?_
            simp only [pickM]
            go_wp2_with fail
            refine hK0.out _ ?_
            clear hK0 K0
            refine sw_fork (fun K2 hK2 => ?_) ?_
            · simp only [pickM]
              go_wp2_with fail
              obtain ⟨x2, hx⟩ : ∃ X, X = World.alloc x1 (.cells (u8s (zer 32)) 25) := ⟨_, rfl⟩
              rw [← hx]
              have hBelow : Below x1.heap.size x1 x2 := by rw [hx]; exact (Below.refl _ _).alloc (Nat.le_refl _) _
              have EX := Lib.hid (show Blk x2 x1.heap.size 25 (u8s (zer 32)) by rw [hx]; exact Blk.new x1 25 _)
              have hnX : w.heap.size + 1 + 1 < x1.heap.size := M.out.b.lt
              have hS := M.out.step hBelow
              clear M hBelow hx
              have M := Lib.hid hS
              go_wp2_with fail
              refine hK2.out _ _ hS ?_
              clear hK2 K2 hS
              refine sw_act fun K2 hK2 => ?_
              simp only [pickM]
              go_wp2_with fail
              obtain ⟨x3, hx⟩ : ∃ X, X = World.alloc x2 (.cells (u8s (zer 32)) 25) := ⟨_, rfl⟩
              rw [← hx]
              have hBelow : Below x2.heap.size x2 x3 := by rw [hx]; exact (Below.refl _ _).alloc (Nat.le_refl _) _
              have EY := Lib.hid (show Blk x3 x2.heap.size 25 (u8s (zer 32)) by rw [hx]; exact Blk.new x2 25 _)
              have hnY : w.heap.size + 1 + 1 < x2.heap.size := M.out.b.lt
              have hXY : x1.heap.size < x2.heap.size := EX.out.lt
              have EX := Lib.hid (EX.out.below hBelow EX.out.lt)
              have hS := M.out.step hBelow
              clear M hBelow hx
              have M := Lib.hid hS
              go_wp2_with fail
              refine hK2.out _ _ hS ?_
              clear hK2 K2 hS
              refine sw_act fun K2 hK2 => ?_
              simp only [pickM]
              have s1 := store25_run EX.out rfl HO.out.1.1
              go_wp2_with fail
              obtain ⟨x4, hx⟩ : ∃ X, X = World.setRow x3 x1.heap.size (u8s x) := ⟨_, rfl⟩
              rw [← hx]
              have hS : FoSt w x4 o := by rw [hx]; exact M.out.row hnX _
              have E2 := Lib.hid (show Blk x4 x1.heap.size 25 (u8s x) by rw [hx]; exact EX.out.setRow _)
              have E3 := Lib.hid (show Blk x4 x2.heap.size 25 _ by rw [hx]; exact EY.out.farRow (by omega) _)
              clear hx s1 EX EY M
              have EX := E2
              have EY := E3
              clear E2 E3
              have M := Lib.hid hS
              go_wp2_with fail
              refine hK2.out _ _ hS ?_
              clear hK2 K2 hS
              refine sw_act fun K2 hK2 => ?_
              simp only [pickM]
              have s1 := store25_run EY.out rfl HO.out.2.1
              go_wp2_with fail
              obtain ⟨x5, hx⟩ : ∃ X, X = World.setRow x4 x2.heap.size (u8s y) := ⟨_, rfl⟩
              rw [← hx]
              have hS : FoSt w x5 o := by rw [hx]; exact M.out.row hnY _
              have E2 := Lib.hid (show Blk x5 x2.heap.size 25 (u8s y) by rw [hx]; exact EY.out.setRow _)
              have E3 := Lib.hid (show Blk x5 x1.heap.size 25 _ by rw [hx]; exact EX.out.farRow (by omega) _)
              clear hx s1 EX EY M
              have EY := E2
              have EX := E3
              clear E2 E3
              have M := Lib.hid hS
              go_wp2_with fail
              refine hK2.out _ _ hS ?_
              clear hK2 K2 hS
              change Exit.then _ _ _ _ _
              go_wp2_with fail
              go_meet
              exact ⟨x1.heap.size, x2.heap.size, rfl, rfl, M.out, EX.out, EY.out, hnX, hnY⟩
            · refine sw_act fun K2 hK2 => ?_
              simp only [pickM]
              go_wp2_with fail
              obtain ⟨x6, hx⟩ : ∃ X, X = World.alloc x1 (.cells (u8s (zer 32)) 25) := ⟨_, rfl⟩
              rw [← hx]
              have hBelow : Below x1.heap.size x1 x6 := by rw [hx]; exact (Below.refl _ _).alloc (Nat.le_refl _) _
              have EY := Lib.hid (show Blk x6 x1.heap.size 25 (u8s (zer 32)) by rw [hx]; exact Blk.new x1 25 _)
              have hnY : w.heap.size + 1 + 1 < x1.heap.size := M.out.b.lt
              have hS := M.out.step hBelow
              clear M hBelow hx
              have M := Lib.hid hS
              go_wp2_with fail
              refine hK2.out _ _ hS ?_
              clear hK2 K2 hS
              refine sw_act fun K2 hK2 => ?_
              simp only [pickM]
              go_wp2_with fail
              obtain ⟨x7, hx⟩ : ∃ X, X = World.alloc x6 (.cells (u8s (zer 32)) 25) := ⟨_, rfl⟩
              rw [← hx]
              have hBelow : Below x6.heap.size x6 x7 := by rw [hx]; exact (Below.refl _ _).alloc (Nat.le_refl _) _
              have EX := Lib.hid (show Blk x7 x6.heap.size 25 (u8s (zer 32)) by rw [hx]; exact Blk.new x6 25 _)
              have hnX : w.heap.size + 1 + 1 < x6.heap.size := M.out.b.lt
              have hXY : x1.heap.size < x6.heap.size := EY.out.lt
              have EY := Lib.hid (EY.out.below hBelow EY.out.lt)
              have hS := M.out.step hBelow
              clear M hBelow hx
              have M := Lib.hid hS
              go_wp2_with fail
              refine hK2.out _ _ hS ?_
              clear hK2 K2 hS
              refine sw_act fun K2 hK2 => ?_
              simp only [pickM]
              have s1 := store25_run EX.out rfl HO.out.1.1
              go_wp2_with fail
              obtain ⟨x8, hx⟩ : ∃ X, X = World.setRow x7 x6.heap.size (u8s x) := ⟨_, rfl⟩
              rw [← hx]
              have hS : FoSt w x8 o := by rw [hx]; exact M.out.row hnX _
              have E2 := Lib.hid (show Blk x8 x6.heap.size 25 (u8s x) by rw [hx]; exact EX.out.setRow _)
              have E3 := Lib.hid (show Blk x8 x1.heap.size 25 _ by rw [hx]; exact EY.out.farRow (by omega) _)
              clear hx s1 EX EY M
              have EX := E2
              have EY := E3
              clear E2 E3
              have M := Lib.hid hS
              go_wp2_with fail
              refine hK2.out _ _ hS ?_
              clear hK2 K2 hS
              refine sw_act fun K2 hK2 => ?_
              simp only [pickM]
              have s1 := store25_run EY.out rfl HO.out.2.1
              go_wp2_with fail
              obtain ⟨x9, hx⟩ : ∃ X, X = World.setRow x8 x1.heap.size (u8s y) := ⟨_, rfl⟩
              rw [← hx]
              have hS : FoSt w x9 o := by rw [hx]; exact M.out.row hnY _
              have E2 := Lib.hid (show Blk x9 x1.heap.size 25 (u8s y) by rw [hx]; exact EY.out.setRow _)
              have E3 := Lib.hid (show Blk x9 x6.heap.size 25 _ by rw [hx]; exact EX.out.farRow (by omega) _)
              clear hx s1 EX EY M
              have EY := E2
              have EX := E3
              clear E2 E3
              have M := Lib.hid hS
              go_wp2_with fail
              refine hK2.out _ _ hS ?_
              clear hK2 K2 hS
              change Exit.then _ _ _ _ _
              go_wp2_with fail
              go_meet
              exact ⟨x6.heap.size, x1.heap.size, rfl, rfl, M.out, EX.out, EY.out, hnX, hnY⟩
          refine sw_fork (fun K2 hK2 => ?_) ?_
          · simp only [pickM]
            go_wp2_with fail
            obtain ⟨x10, hx⟩ : ∃ X, X = World.alloc V (.cells (u8s (zer 32)) 25) := ⟨_, rfl⟩
            rw [← hx]
            have hBelow : Below V.heap.size V x10 := by rw [hx]; exact (Below.refl _ _).alloc (Nat.le_refl _) _
            have EX := Lib.hid (show Blk x10 V.heap.size 25 (u8s (zer 32)) by rw [hx]; exact Blk.new V 25 _)
            have hnX : w.heap.size + 1 + 1 < V.heap.size := M.out.b.lt
            have hS := M.out.step hBelow
            clear M hBelow hx
            have M := Lib.hid hS
            go_wp2_with fail
            refine hK2.out _ _ hS ?_
            clear hK2 K2 hS
            refine sw_fork (fun K2 hK2 => ?_) ?_
            · simp only [pickM]
              go_wp2_with fail
              refine (HC.out _ M.out.at_).mono ?_
              rintro e x11 ⟨rfl, hBelow⟩
              have EX := Lib.hid (EX.out.below hBelow EX.out.lt)
              have hS := M.out.step hBelow
              clear M hBelow
              have M := Lib.hid hS
              go_wp2_with fail
              refine hK2.out _ _ hS ?_
              clear hK2 K2 hS
              refine sw_still fun K0 hK0 => ?_
              simp only [pickM]
              go_wp2_with fail
              refine hK0.out _ ?_
              clear hK0 K0
              refine sw_act fun K2 hK2 => ?_
              simp only [pickM]
              go_wp2_with fail
              obtain ⟨x12, hx⟩ : ∃ X, X = World.alloc x11 (.cells (u8s (zer 32)) 25) := ⟨_, rfl⟩
              rw [← hx]
              have hBelow : Below x11.heap.size x11 x12 := by rw [hx]; exact (Below.refl _ _).alloc (Nat.le_refl _) _
              have EY := Lib.hid (show Blk x12 x11.heap.size 25 (u8s (zer 32)) by rw [hx]; exact Blk.new x11 25 _)
              have hnY : w.heap.size + 1 + 1 < x11.heap.size := M.out.b.lt
              have hXY : V.heap.size < x11.heap.size := EX.out.lt
              have EX := Lib.hid (EX.out.below hBelow EX.out.lt)
              have hS := M.out.step hBelow
              clear M hBelow hx
              have M := Lib.hid hS
              go_wp2_with fail
              refine hK2.out _ _ hS ?_
              clear hK2 K2 hS
              refine sw_act fun K2 hK2 => ?_
              simp only [pickM]
              have s1 := store25_run EX.out rfl HO.out.1.1
              go_wp2_with fail
              obtain ⟨x13, hx⟩ : ∃ X, X = World.setRow x12 V.heap.size (u8s x) := ⟨_, rfl⟩
              rw [← hx]
              have hS : FoSt w x13 o := by rw [hx]; exact M.out.row hnX _
              have E2 := Lib.hid (show Blk x13 V.heap.size 25 (u8s x) by rw [hx]; exact EX.out.setRow _)
              have E3 := Lib.hid (show Blk x13 x11.heap.size 25 _ by rw [hx]; exact EY.out.farRow (by omega) _)
              clear hx s1 EX EY M
              have EX := E2
              have EY := E3
              clear E2 E3
              have M := Lib.hid hS
              go_wp2_with fail
              refine hK2.out _ _ hS ?_
              clear hK2 K2 hS
              refine sw_act fun K2 hK2 => ?_
              simp only [pickM]
              have s1 := store25_run EY.out rfl HO.out.2.1
              go_wp2_with fail
              obtain ⟨x14, hx⟩ : ∃ X, X = World.setRow x13 x11.heap.size (u8s y) := ⟨_, rfl⟩
              rw [← hx]
              have hS : FoSt w x14 o := by rw [hx]; exact M.out.row hnY _
              have E2 := Lib.hid (show Blk x14 x11.heap.size 25 (u8s y) by rw [hx]; exact EY.out.setRow _)
              have E3 := Lib.hid (show Blk x14 V.heap.size 25 _ by rw [hx]; exact EX.out.farRow (by omega) _)
              clear hx s1 EX EY M
              have EY := E2
              have EX := E3
              clear E2 E3
              have M := Lib.hid hS
              go_wp2_with fail
              refine hK2.out _ _ hS ?_
              clear hK2 K2 hS
              change Exit.then _ _ _ _ _
              go_wp2_with fail
              go_meet
              exact ⟨V.heap.size, x11.heap.size, rfl, rfl, M.out, EX.out, EY.out, hnX, hnY⟩
            · refine sw_act fun K2 hK2 => ?_
              simp only [pickM]
              go_wp2_with fail
              obtain ⟨x15, hx⟩ : ∃ X, X = World.alloc x10 (.cells (u8s (zer 32)) 25) := ⟨_, rfl⟩
              rw [← hx]
              have hBelow : Below x10.heap.size x10 x15 := by rw [hx]; exact (Below.refl _ _).alloc (Nat.le_refl _) _
              have EY := Lib.hid (show Blk x15 x10.heap.size 25 (u8s (zer 32)) by rw [hx]; exact Blk.new x10 25 _)
              have hnY : w.heap.size + 1 + 1 < x10.heap.size := M.out.b.lt
              have hXY : V.heap.size < x10.heap.size := EX.out.lt
              have EX := Lib.hid (EX.out.below hBelow EX.out.lt)
              have hS := M.out.step hBelow
              clear M hBelow hx
              have M := Lib.hid hS
              go_wp2_with fail
              refine hK2.out _ _ hS ?_
              clear hK2 K2 hS
              refine sw_act fun K2 hK2 => ?_
              simp only [pickM]
              go_wp2_with fail
              refine (HC.out _ M.out.at_).mono ?_
              rintro e x16 ⟨rfl, hBelow⟩
              have EX := Lib.hid (EX.out.below hBelow EX.out.lt)
              have EY := Lib.hid (EY.out.below hBelow EY.out.lt)
              have hS := M.out.step hBelow
              clear M hBelow
              have M := Lib.hid hS
              go_wp2_with fail
              refine hK2.out _ _ hS ?_
              clear hK2 K2 hS
              refine sw_still fun K0 hK0 => ?_
              simp only [pickM]
              go_wp2_with fail
              refine hK0.out _ ?_
              clear hK0 K0
              refine sw_act fun K2 hK2 => ?_
              simp only [pickM]
              have s1 := store25_run EX.out rfl HO.out.1.1
              go_wp2_with fail
              obtain ⟨x17, hx⟩ : ∃ X, X = World.setRow x16 V.heap.size (u8s x) := ⟨_, rfl⟩
              rw [← hx]
              have hS : FoSt w x17 o := by rw [hx]; exact M.out.row hnX _
              have E2 := Lib.hid (show Blk x17 V.heap.size 25 (u8s x) by rw [hx]; exact EX.out.setRow _)
              have E3 := Lib.hid (show Blk x17 x10.heap.size 25 _ by rw [hx]; exact EY.out.farRow (by omega) _)
              clear hx s1 EX EY M
              have EX := E2
              have EY := E3
              clear E2 E3
              have M := Lib.hid hS
              go_wp2_with fail
              refine hK2.out _ _ hS ?_
              clear hK2 K2 hS
              refine sw_act fun K2 hK2 => ?_
              simp only [pickM]
              have s1 := store25_run EY.out rfl HO.out.2.1
              go_wp2_with fail
              obtain ⟨x18, hx⟩ : ∃ X, X = World.setRow x17 x10.heap.size (u8s y) := ⟨_, rfl⟩
              rw [← hx]
              have hS : FoSt w x18 o := by rw [hx]; exact M.out.row hnY _
              have E2 := Lib.hid (show Blk x18 x10.heap.size 25 (u8s y) by rw [hx]; exact EY.out.setRow _)
              have E3 := Lib.hid (show Blk x18 V.heap.size 25 _ by rw [hx]; exact EX.out.farRow (by omega) _)
              clear hx s1 EX EY M
              have EY := E2
              have EX := E3
              clear E2 E3
              have M := Lib.hid hS
              go_wp2_with fail
              refine hK2.out _ _ hS ?_
              clear hK2 K2 hS
              change Exit.then _ _ _ _ _
              go_wp2_with fail
              go_meet
              exact ⟨V.heap.size, x10.heap.size, rfl, rfl, M.out, EX.out, EY.out, hnX, hnY⟩
          · refine sw_act fun K2 hK2 => ?_
            simp only [pickM]
            go_wp2_with fail
            obtain ⟨x19, hx⟩ : ∃ X, X = World.alloc V (.cells (u8s (zer 32)) 25) := ⟨_, rfl⟩
            rw [← hx]
            have hBelow : Below V.heap.size V x19 := by rw [hx]; exact (Below.refl _ _).alloc (Nat.le_refl _) _
            have EY := Lib.hid (show Blk x19 V.heap.size 25 (u8s (zer 32)) by rw [hx]; exact Blk.new V 25 _)
            have hnY : w.heap.size + 1 + 1 < V.heap.size := M.out.b.lt
            have hS := M.out.step hBelow
            clear M hBelow hx
            have M := Lib.hid hS
            go_wp2_with fail
            refine hK2.out _ _ hS ?_
            clear hK2 K2 hS
            refine sw_fork (fun K2 hK2 => ?_) ?_
            · simp only [pickM]
              go_wp2_with fail
              refine (HC.out _ M.out.at_).mono ?_
              rintro e x20 ⟨rfl, hBelow⟩
              have EY := Lib.hid (EY.out.below hBelow EY.out.lt)
              have hS := M.out.step hBelow
              clear M hBelow
              have M := Lib.hid hS
              go_wp2_with fail
              refine hK2.out _ _ hS ?_
              clear hK2 K2 hS
              refine sw_still fun K0 hK0 => ?_
              simp only [pickM]
              go_wp2_with fail
              refine hK0.out _ ?_
              clear hK0 K0
              refine sw_act fun K2 hK2 => ?_
              simp only [pickM]
              go_wp2_with fail
              obtain ⟨x21, hx⟩ : ∃ X, X = World.alloc x20 (.cells (u8s (zer 32)) 25) := ⟨_, rfl⟩
              rw [← hx]
              have hBelow : Below x20.heap.size x20 x21 := by rw [hx]; exact (Below.refl _ _).alloc (Nat.le_refl _) _
              have EX := Lib.hid (show Blk x21 x20.heap.size 25 (u8s (zer 32)) by rw [hx]; exact Blk.new x20 25 _)
              have hnX : w.heap.size + 1 + 1 < x20.heap.size := M.out.b.lt
              have hXY : V.heap.size < x20.heap.size := EY.out.lt
              have EY := Lib.hid (EY.out.below hBelow EY.out.lt)
              have hS := M.out.step hBelow
              clear M hBelow hx
              have M := Lib.hid hS
              go_wp2_with fail
              refine hK2.out _ _ hS ?_
              clear hK2 K2 hS
              refine sw_act fun K2 hK2 => ?_
              simp only [pickM]
              have s1 := store25_run EX.out rfl HO.out.1.1
              go_wp2_with fail
              obtain ⟨x22, hx⟩ : ∃ X, X = World.setRow x21 x20.heap.size (u8s x) := ⟨_, rfl⟩
              rw [← hx]
              have hS : FoSt w x22 o := by rw [hx]; exact M.out.row hnX _
              have E2 := Lib.hid (show Blk x22 x20.heap.size 25 (u8s x) by rw [hx]; exact EX.out.setRow _)
              have E3 := Lib.hid (show Blk x22 V.heap.size 25 _ by rw [hx]; exact EY.out.farRow (by omega) _)
              clear hx s1 EX EY M
              have EX := E2
              have EY := E3
              clear E2 E3
              have M := Lib.hid hS
              go_wp2_with fail
              refine hK2.out _ _ hS ?_
              clear hK2 K2 hS
              refine sw_act fun K2 hK2 => ?_
              simp only [pickM]
              have s1 := store25_run EY.out rfl HO.out.2.1
              go_wp2_with fail
              obtain ⟨x23, hx⟩ : ∃ X, X = World.setRow x22 V.heap.size (u8s y) := ⟨_, rfl⟩
              rw [← hx]
              have hS : FoSt w x23 o := by rw [hx]; exact M.out.row hnY _
              have E2 := Lib.hid (show Blk x23 V.heap.size 25 (u8s y) by rw [hx]; exact EY.out.setRow _)
              have E3 := Lib.hid (show Blk x23 x20.heap.size 25 _ by rw [hx]; exact EX.out.farRow (by omega) _)
              clear hx s1 EX EY M
              have EY := E2
              have EX := E3
              clear E2 E3
              have M := Lib.hid hS
              go_wp2_with fail
              refine hK2.out _ _ hS ?_
              clear hK2 K2 hS
              change Exit.then _ _ _ _ _
              go_wp2_with fail
              go_meet
              exact ⟨x20.heap.size, V.heap.size, rfl, rfl, M.out, EX.out, EY.out, hnX, hnY⟩
            · refine sw_act fun K2 hK2 => ?_
              simp only [pickM]
              go_wp2_with fail
              obtain ⟨x24, hx⟩ : ∃ X, X = World.alloc x19 (.cells (u8s (zer 32)) 25) := ⟨_, rfl⟩
              rw [← hx]
              have hBelow : Below x19.heap.size x19 x24 := by rw [hx]; exact (Below.refl _ _).alloc (Nat.le_refl _) _
              have EX := Lib.hid (show Blk x24 x19.heap.size 25 (u8s (zer 32)) by rw [hx]; exact Blk.new x19 25 _)
              have hnX : w.heap.size + 1 + 1 < x19.heap.size := M.out.b.lt
              have hXY : V.heap.size < x19.heap.size := EY.out.lt
              have EY := Lib.hid (EY.out.below hBelow EY.out.lt)
              have hS := M.out.step hBelow
              clear M hBelow hx
              have M := Lib.hid hS
              go_wp2_with fail
              refine hK2.out _ _ hS ?_
              clear hK2 K2 hS
              refine sw_act fun K2 hK2 => ?_
              simp only [pickM]
              go_wp2_with fail
              refine (HC.out _ M.out.at_).mono ?_
              rintro e x25 ⟨rfl, hBelow⟩
              have EX := Lib.hid (EX.out.below hBelow EX.out.lt)
              have EY := Lib.hid (EY.out.below hBelow EY.out.lt)
              have hS := M.out.step hBelow
              clear M hBelow
              have M := Lib.hid hS
              go_wp2_with fail
              refine hK2.out _ _ hS ?_
              clear hK2 K2 hS
              refine sw_still fun K0 hK0 => ?_
              simp only [pickM]
              go_wp2_with fail
              refine hK0.out _ ?_
              clear hK0 K0
              refine sw_act fun K2 hK2 => ?_
              simp only [pickM]
              have s1 := store25_run EX.out rfl HO.out.1.1
              go_wp2_with fail
              obtain ⟨x26, hx⟩ : ∃ X, X = World.setRow x25 x19.heap.size (u8s x) := ⟨_, rfl⟩
              rw [← hx]
              have hS : FoSt w x26 o := by rw [hx]; exact M.out.row hnX _
              have E2 := Lib.hid (show Blk x26 x19.heap.size 25 (u8s x) by rw [hx]; exact EX.out.setRow _)
              have E3 := Lib.hid (show Blk x26 V.heap.size 25 _ by rw [hx]; exact EY.out.farRow (by omega) _)
              clear hx s1 EX EY M
              have EX := E2
              have EY := E3
              clear E2 E3
              have M := Lib.hid hS
              go_wp2_with fail
              refine hK2.out _ _ hS ?_
              clear hK2 K2 hS
              refine sw_act fun K2 hK2 => ?_
              simp only [pickM]
              have s1 := store25_run EY.out rfl HO.out.2.1
              go_wp2_with fail
              obtain ⟨x27, hx⟩ : ∃ X, X = World.setRow x26 V.heap.size (u8s y) := ⟨_, rfl⟩
              rw [← hx]
              have hS : FoSt w x27 o := by rw [hx]; exact M.out.row hnY _
              have E2 := Lib.hid (show Blk x27 V.heap.size 25 (u8s y) by rw [hx]; exact EY.out.setRow _)
              have E3 := Lib.hid (show Blk x27 x19.heap.size 25 _ by rw [hx]; exact EX.out.farRow (by omega) _)
              clear hx s1 EX EY M
              have EY := E2
              have EX := E3
              clear E2 E3
              have M := Lib.hid hS
              go_wp2_with fail
              refine hK2.out _ _ hS ?_
              clear hK2 K2 hS
              change Exit.then _ _ _ _ _
              go_wp2_with fail
              go_meet
              exact ⟨x19.heap.size, V.heap.size, rfl, rfl, M.out, EX.out, EY.out, hnX, hnY⟩
        case rest =>
        obtain ⟨gx, gy, rfl, rfl, F, Ex, Ey, hx3, hy3⟩ := hcut
        go_upto_region 11 with (fail)
        have M := Lib.hid (F9.mk (w := w) Ex.drew Ey.drew F.at_.drew)
        have EA := Lib.hid F.a.drew
        have EB := Lib.hid F.b.drew
        clear Ex Ey F HE
        refine wp_region_inv (fun W => F9 w W gx gy x y) (.still [true, true, false, false, false, false, true, true, false, false, false, false, false, false] (.see [false, false, true, false, false, false, false, false, false, false, false, false, false, false] (.see [false, false, false, true, false, false, false, false, false, false, false, false, false, false] (.see [false, false, false, false, true, false, false, false, false, false, false, false, false, false] (.see [false, false, false, false, false, false, false, false, true, false, false, false, false, false] (.see [false, false, false, false, false, false, false, false, false, true, false, false, false, false] (.see [false, false, false, false, false, false, false, false, false, false, true, false, false, false] (.act [false, false, false, false, false, true, false, false, false, false, false, false, false, false] (.act [false, false, false, false, false, false, false, false, false, false, false, true, false, false] (.act [false, false, false, false, false, false, false, false, false, false, false, false, true, false] (.act [false, false, false, false, false, false, false, false, false, false, false, false, false, true] .stop))))))))))) (by kernel_rfl) (by kernel_rfl) (fun _ _ d _ _ h => by cases d <;> exact h) M.out ?_
        generalize wc.drew = V at *
        refine sw_still fun K0 hK0 => ?_
        simp only [pickM]
        go_wp2_with fail
        refine hK0.out _ ?_
        clear hK0 K0
        refine sw_see (v := (.pointer (some ⟨pg, po + q * 32, none⟩))) (by rfl) (by rfl) (fun V hV => ?_) ?_
        · go_simp
          try (intro h; exfalso; omega)
        refine sw_see (v := .agg (u8s last)) (by rfl) (by rfl) (fun V hV => ?_) ?_
        · have l := HLd.out V hV.b
          go_simp
        refine sw_see (v := .agg (u8s x)) (by rfl) (by rfl) (fun V hV => ?_) ?_
        · have l := load25_run hV.x HO.out.1.1
          go_simp
        refine sw_see (v := (.pointer (some ⟨pg, po + q * 32, none⟩))) (by rfl) (by rfl) (fun V hV => ?_) ?_
        · go_simp
          try (intro h; exfalso; omega)
        refine sw_see (v := .agg (u8s last)) (by rfl) (by rfl) (fun V hV => ?_) ?_
        · have l := HLd.out V hV.b
          go_simp
        refine sw_see (v := .agg (u8s y)) (by rfl) (by rfl) (fun V hV => ?_) ?_
        · have l := load25_run hV.y HO.out.2.1
          go_simp
        refine sw_act fun K2 hK2 => ?_
        simp only [pickM]
        go_wp2_with fail
        refine (nodehash_any _ M.out.b.t last x HL.out.1 HO.out.1.1 HL.out.2 HO.out.1.2).mono ?_
        rintro e x1 ⟨rfl, hBelow⟩
        have EA := Lib.hid (EA.out.below hBelow EA.out.lt)
        have EB := Lib.hid (EB.out.below hBelow EB.out.lt)
        have hS := M.out.step hBelow
        clear M hBelow
        have M := Lib.hid hS
        go_wp2_with fail
        refine hK2.out _ _ hS ?_
        clear hK2 K2 hS
        refine sw_act fun K2 hK2 => ?_
        simp only [pickM]
        go_wp2_with fail
        refine (nodehash_any _ M.out.b.t last y HL.out.1 HO.out.2.1 HL.out.2 HO.out.2.2).mono ?_
        rintro e x2 ⟨rfl, hBelow⟩
        have EA := Lib.hid (EA.out.below hBelow EA.out.lt)
        have EB := Lib.hid (EB.out.below hBelow EB.out.lt)
        have hS := M.out.step hBelow
        clear M hBelow
        have M := Lib.hid hS
        go_wp2_with fail
        refine hK2.out _ _ hS ?_
        clear hK2 K2 hS
        refine sw_act fun K2 hK2 => ?_
        simp only [pickM]
        have s1 := store25_run EA.out rfl (nodeL_length last x)
        go_wp2_with fail
        obtain ⟨x3, hx⟩ : ∃ X, X = World.setRow x2 (w.heap.size + 1) (u8s (nodeL last x)) := ⟨_, rfl⟩
        rw [← hx]
        have hS : F9 w x3 gx gy x y := by rw [hx]; exact M.out.row (by omega) (by omega) hx3 hy3 _
        have E2 := Lib.hid (show Blk x3 (w.heap.size + 1) 25 (u8s (nodeL last x)) by rw [hx]; exact EA.out.setRow _)
        have E3 := Lib.hid (show Blk x3 (w.heap.size + 1 + 1) 25 _ by rw [hx]; exact EB.out.farRow (by omega) _)
        clear hx s1 EA EB M
        have EA := E2
        have EB := E3
        clear E2 E3
        have M := Lib.hid hS
        go_wp2_with fail
        refine hK2.out _ _ hS ?_
        clear hK2 K2 hS
        refine sw_act fun K2 hK2 => ?_
        simp only [pickM]
        have s1 := store25_run EB.out rfl (nodeL_length last y)
        go_wp2_with fail
        obtain ⟨x4, hx⟩ : ∃ X, X = World.setRow x3 (w.heap.size + 1 + 1) (u8s (nodeL last y)) := ⟨_, rfl⟩
        rw [← hx]
        have hS : F9 w x4 gx gy x y := by rw [hx]; exact M.out.row (by omega) (by omega) hx3 hy3 _
        have E2 := Lib.hid (show Blk x4 (w.heap.size + 1 + 1) 25 (u8s (nodeL last y)) by rw [hx]; exact EB.out.setRow _)
        have E3 := Lib.hid (show Blk x4 (w.heap.size + 1) 25 _ by rw [hx]; exact EA.out.farRow (by omega) _)
        clear hx s1 EA EB M
        have EB := E2
        have EA := E3
        clear E2 E3
        have M := Lib.hid hS
        go_wp2_with fail
        refine hK2.out _ _ hS ?_
        clear hK2 K2 hS
        change Exit.then _ _ _ _ _
        go_wp2_with fail
        exact fo_ret (p := 10) (u := 11) rfl (nodeL_length last x) (nodeL_length last y) rfl rfl rfl EA.out EB.out M.out.b.b
end Go.Proofs.YtediocpdpghbfaaDoor
