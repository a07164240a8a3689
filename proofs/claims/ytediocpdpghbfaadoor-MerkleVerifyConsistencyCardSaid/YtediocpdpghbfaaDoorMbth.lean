/- Merkle: both of the reference: the two hashes that result from a consistency proof. -/
import Derived.Test.YtediocpdpghbfaaDoorMfol
set_option linter.unusedSimpArgs false
set_option linter.unusedVariables false
namespace Go.Proofs.YtediocpdpghbfaaDoor
open Go Go.RowKit

structure BoSt (w W : World) (o : List Nat) : Prop where
  t : Blk W w.heap.size 32 (u32s TT)
  o : Blk W (w.heap.size + 1) 24 (u8s o)
  a : Blk W (w.heap.size + 1 + 1) 24 (u8s (zer 32))
  b : Blk W (w.heap.size + 1 + 1 + 1) 24 (u8s (zer 32))
  bl : Below w.heap.size w W
theorem bo_start (w : World) (o : List Nat) : BoSt w ((((w.alloc (.cells (u32s TT) 32)).alloc (.cells (u8s o) 24)).alloc (.cells (u8s (zer 32)) 24)).alloc (.cells (u8s (zer 32)) 24)) o :=
  ⟨(((Blk.new _ _ _).alloc _).alloc _).alloc _, ((Blk.new1 _ _ _ _).alloc _).alloc _, (Blk.new2 _ _ _ _ _).alloc _, Blk.new3 _ _ _ _ _ _,
    ((((Below.refl _ _).alloc (Nat.le_refl _) _).alloc (by simp) _).alloc (by simp only [size1]; omega) _).alloc (by simp only [size1]; omega) _⟩
theorem BoSt.le {w W : World} {o : List Nat} (h : BoSt w W o) : w.heap.size + 1 + 1 + 1 < W.heap.size := h.b.lt
theorem BoSt.step {w W W' : World} {o : List Nat} (h : BoSt w W o) (b : Below W.heap.size W W') : BoSt w W' o :=
  ⟨h.t.below b h.t.lt, h.o.below b h.o.lt, h.a.below b h.a.lt, h.b.below b h.b.lt, h.bl.trans (b.mono (Nat.le_of_lt h.t.lt))⟩
theorem BoSt.row {w W : World} {o : List Nat} (h : BoSt w W o) {e : Nat} (h1 : w.heap.size + 1 + 1 + 1 < e) (cs : Array Value) : BoSt w (W.setRow e cs) o :=
  ⟨h.t.farRow (by omega) _, h.o.farRow (by omega) _, h.a.farRow (by omega) _, h.b.farRow (by omega) _, below_setRow' h.bl (by omega) _⟩
/-- with the last hash of the proof -/
structure BlSt (w W : World) (gl : Nat) (o last : List Nat) : Prop where
  s : BoSt w W o
  l : Blk W gl 24 (u8s last)
theorem BlSt.step {w W W' : World} {gl : Nat} {o last : List Nat} (h : BlSt w W gl o last) (b : Below W.heap.size W W') : BlSt w W' gl o last := ⟨h.s.step b, h.l.below b h.l.lt⟩
theorem BlSt.row {w W : World} {gl : Nat} {o last : List Nat} (h : BlSt w W gl o last) {e : Nat} (h1 : w.heap.size + 1 + 1 + 1 < gl) (h2 : gl < e) (cs : Array Value) : BlSt w (W.setRow e cs) gl o last := ⟨h.s.row (by omega) _, h.l.farRow (by omega) _⟩
/-- what the walk of the stores at the end keeps -/
structure BsSt (w W : World) (g : Nat) (v : List Nat) : Prop where
  v : Blk W g 24 (u8s v)
  b : Below w.heap.size w W
structure B9 (w W : World) (gx gy gl : Nat) (x y last : List Nat) : Prop where
  t : Blk W w.heap.size 32 (u32s TT)
  x : Blk W gx 24 (u8s x)
  y : Blk W gy 24 (u8s y)
  l : Blk W gl 24 (u8s last)
  b : Below w.heap.size w W
theorem B9.step {w W W' : World} {gx gy gl : Nat} {x y last : List Nat} (h : B9 w W gx gy gl x y last) (b : Below W.heap.size W W') : B9 w W' gx gy gl x y last := ⟨h.t.below b h.t.lt, h.x.below b h.x.lt, h.y.below b h.y.lt, h.l.below b h.l.lt, h.b.trans (b.mono (Nat.le_of_lt h.t.lt))⟩
theorem B9.row {w W : World} {gx gy gl : Nat} {x y last : List Nat} (h : B9 w W gx gy gl x y last) {e : Nat} (h0 : w.heap.size < e) (h1 : e ≤ w.heap.size + 1 + 1 + 1) (hl : w.heap.size + 1 + 1 + 1 < gl) (hx : gl < gx) (hy : gl < gy) (cs : Array Value) : B9 w (W.setRow e cs) gx gy gl x y last :=
  ⟨h.t.farRow (by omega) _, h.x.farRow (by omega) _, h.y.farRow (by omega) _, h.l.farRow (by omega) _, below_setRow' h.b (by omega) _⟩
/-- the results: two digests in fresh variables, and a bool -/
theorem bo_ret {fn : Func} {a : Act} {w W : World} {p u q : Tmp} {x y : List Nat} {v : Value} (h : fn.results = #[.cell p 24, .cell u 24, .tmp q]) (hx : x.length = 32) (hy : y.length = 32) (hp : a.tmps.getD p undef = .pointer (some ⟨w.heap.size + 1 + 1, 0, none⟩)) (hu : a.tmps.getD u undef = .pointer (some ⟨w.heap.size + 1 + 1 + 1, 0, none⟩)) (hq : a.tmps.getD q undef = v) (hdf : a.defers = [])
    (hA : Blk W (w.heap.size + 1 + 1) 24 (u8s x)) (hB : Blk W (w.heap.size + 1 + 1 + 1) 24 (u8s y)) (hW : Below w.heap.size w W) : bodyPost Tryd.prog fn (fun e w' => e = .returned (.tuple #[.agg (u8s x), .agg (u8s y), v]) ∧ Below w.heap.size w w') .ret a W := by
  refine bodyPost_ret (v := .tuple #[.agg (u8s x), .agg (u8s y), v]) ?_ hdf ⟨rfl, hW⟩
  have hp' : a.tmps[p]?.getD undef = .pointer (some ⟨w.heap.size + 1 + 1, 0, none⟩) := by simpa using hp
  have hu' : a.tmps[u]?.getD undef = .pointer (some ⟨w.heap.size + 1 + 1 + 1, 0, none⟩) := by simpa using hu
  have hq' : a.tmps[q]?.getD undef = v := by simpa using hq
  simp [results, h, hp', hu', hq', asAddr, run_loadVar_row W _ 24 24 _ (0, 0) _ hA Tryd.underlying24 rfl (size24 _ hx), run_loadVar_row W _ 24 24 _ (0, 0) _ hB Tryd.underlying24 rfl (size24 _ hy)]
theorem bothL_ok : ∀ (n m : Nat) (b : Bool) (o : List Nat) (ps : List (List Nat)), 1 ≤ m → m ≤ n → o.length = 32 → Bytes o → Digs ps → ((bothL m n b o ps).1.length = 32 ∧ Bytes (bothL m n b o ps).1) ∧ (bothL m n b o ps).2.1.length = 32 ∧ Bytes (bothL m n b o ps).2.1 := by
  intro n
  induction n using Nat.strongRecOn with
  | ind n ih =>
    intro m b o ps h1 hm ho hB hd
    by_cases hw : m = n ∧ b = true
    · obtain ⟨rfl, rfl⟩ := hw
      rw [bothL_whole m o ps h1]; exact ⟨⟨ho, hB⟩, ho, hB⟩
    by_cases hp : ps.length = 0
    · rw [bothL_nil m n b o ps h1 hm hw hp]; exact ⟨⟨ho, hB⟩, ho, hB⟩
    by_cases he : m = n
    · subst he
      obtain rfl : b = false := by cases b <;> simp_all
      rw [bothL_eq m o ps h1 hp]
      have := digs_at hd (k := ps.length - 1) (by omega)
      exact ⟨this, this⟩
    · have hk := splitL_bd n (by omega)
      have hlt : m < n := by omega
      rcases Nat.lt_or_ge (splitL n) m with h | h
      · rw [bothL_hi m n b o ps h1 hlt hp h]; exact ⟨⟨nodeL_length _ _, sha_bytes _⟩, nodeL_length _ _, sha_bytes _⟩
      · rw [bothL_lo m n b o ps h1 hlt hp h]
        exact ⟨(ih (splitL n) (by omega) m b o _ h1 h ho hB (digs_take hd _)).1, nodeL_length _ _, sha_bytes _⟩
attribute [local go_sem ↓] ld24 st24 ld32 alc24_rule
attribute [local go_sem] alc24_run
set_option maxRecDepth 100000 in
set_option maxHeartbeats 4000000 in
theorem both_any : ∀ (n m : Nat) (b : Bool) (o : List Nat) (ps : List (List Nat)) (w : World) (P : Option Addr) (k pc : Nat), 1 ≤ m → m ≤ n → n ≤ 65536 → o.length = 32 → Bytes o → ps.length = k → k ≤ 100000 → k ≤ pc → pc ≤ 9223372036854775807 → Digs ps → LV w P (hcell ps) →
    Calls Tryd.prog 85 #[.agg (u32s TT), .int .i64 m, .int .i64 n, .bool b, .agg (u8s o), .slice P k pc] w fun e w' => e = .returned (.tuple #[.agg (u8s (bothL m n b o ps).1), .agg (u8s (bothL m n b o ps).2.1), .bool (bothL m n b o ps).2.2]) ∧ Below w.heap.size w w' := by
  intro n
  induction n using Nat.strongRecOn with
  | ind n ih =>
    intro m b o ps w P k pc h1 hm hn ho hB hk hk2 hkp hpc hd hP
    have IH := Lib.hid ih
    clear ih
    have HE := Lib.hid (bo_start w o)
    by_cases hw : m = n ∧ b = true
    · obtain ⟨rfl, rfl⟩ := hw
      rw [bothL_whole m o ps h1, hk]
      have t0 : ((m : Int) == (m : Int)) = true := by simp
      clear hP hd hk hB IH
      by_cases h0 : k = 0
      · subst h0
        rw [show decide ((0 : Nat) = 0) = true from rfl]
        go_enter Tryd.func85, Tryd.ntmps85
        go_wp2_with fail
        generalize (((w.alloc (.cells (u32s TT) 32)).alloc (.cells (u8s o) 24)).alloc (.cells (u8s (zer 32)) 24)).alloc (.cells (u8s (zer 32)) 24) = W at *
        have M := Lib.hid (BsSt.mk (w := w) HE.out.o.drew HE.out.bl.drew)
        have EA := Lib.hid HE.out.a.drew
        have EB := Lib.hid HE.out.b.drew
        clear HE
        refine wp_region_inv (fun W => BsSt w W (w.heap.size + 1) o) (.still [false, false, true, false, false, false, false, false] (.see [true, false, false, false, false, false, false, false] (.see [false, true, false, false, false, false, false, false] (.see [false, false, false, true, false, false, false, false] (.see [false, false, false, false, true, false, false, false] (.act [false, false, false, false, false, true, false, false] (.act [false, false, false, false, false, false, true, false] (.still [false, false, false, false, false, false, false, true] .stop)))))))) (by kernel_rfl) (by kernel_rfl) (fun _ _ d _ _ h => by cases d <;> exact h) M.out ?_
        generalize W.drew = V at *
        refine sw_still fun K0 hK0 => ?_
        simp only [pickM]
        go_wp2_with fail
        refine hK0.out _ ?_
        clear hK0 K0
        refine sw_see (v := .agg (u8s o)) (by rfl) (by rfl) (fun V hV => ?_) ?_
        · have l := load24M hV.v ho
          go_simp
        refine sw_see (v := .agg (u8s o)) (by rfl) (by rfl) (fun V hV => ?_) ?_
        · have l := load24M hV.v ho
          go_simp
        refine sw_see (v := (.int .i64 0)) (by rfl) (by rfl) (fun V hV => ?_) ?_
        · go_simp
        refine sw_see (v := (.bool true)) (by rfl) (by rfl) (fun V hV => ?_) ?_
        · go_simp
        refine sw_act fun K2 hK2 => ?_
        simp only [pickM]
        have s1 := store24_run EA.out rfl ho
        go_wp2_with fail
        obtain ⟨x1, hx⟩ : ∃ X, X = World.setRow V (w.heap.size + 1 + 1) (u8s o) := ⟨_, rfl⟩
        rw [← hx]
        have hS : BsSt w x1 (w.heap.size + 1) o := by rw [hx]; exact ⟨M.out.v.farRow (by omega) _, below_setRow' M.out.b (by omega) _⟩
        have E2 := Lib.hid (show Blk x1 (w.heap.size + 1 + 1) 24 (u8s o) by rw [hx]; exact EA.out.setRow _)
        have E3 := Lib.hid (show Blk x1 (w.heap.size + 1 + 1 + 1) 24 _ by rw [hx]; exact EB.out.farRow (by omega) _)
        clear hx s1 EA EB M
        have EA := E2
        have EB := E3
        clear E2 E3
        have M := Lib.hid hS
        go_wp2_with fail
        refine hK2.out _ _ hS ?_
        clear hK2 K2 hS
        refine sw_act fun K2 hK2 => ?_
        simp only [pickM]
        have s1 := store24_run EB.out rfl ho
        go_wp2_with fail
        obtain ⟨x2, hx⟩ : ∃ X, X = World.setRow x1 (w.heap.size + 1 + 1 + 1) (u8s o) := ⟨_, rfl⟩
        rw [← hx]
        have hS : BsSt w x2 (w.heap.size + 1) o := by rw [hx]; exact ⟨M.out.v.farRow (by omega) _, below_setRow' M.out.b (by omega) _⟩
        have E2 := Lib.hid (show Blk x2 (w.heap.size + 1 + 1 + 1) 24 (u8s o) by rw [hx]; exact EB.out.setRow _)
        have E3 := Lib.hid (show Blk x2 (w.heap.size + 1 + 1) 24 _ by rw [hx]; exact EA.out.farRow (by omega) _)
        clear hx s1 EA EB M
        have EB := E2
        have EA := E3
        clear E2 E3
        have M := Lib.hid hS
        go_wp2_with fail
        refine hK2.out _ _ hS ?_
        clear hK2 K2 hS
        refine sw_still fun K0 hK0 => ?_
        simp only [pickM]
        go_wp2_with fail
        refine hK0.out _ ?_
        clear hK0 K0
        change Exit.then _ _ _ _ _
        go_wp2_with fail
        exact bo_ret (p := 12) (u := 13) (q := 14) rfl ho ho rfl rfl rfl rfl EA.out EB.out M.out.b
      · have t1 : ((k : Int) == 0) = false := by rw [beq_eq_false_iff_ne]; omega
        rw [show decide (k = 0) = false by simp; omega]
        clear h0
        go_enter Tryd.func85, Tryd.ntmps85
        go_wp2_with fail
        generalize (((w.alloc (.cells (u32s TT) 32)).alloc (.cells (u8s o) 24)).alloc (.cells (u8s (zer 32)) 24)).alloc (.cells (u8s (zer 32)) 24) = W at *
        have M := Lib.hid (BsSt.mk (w := w) HE.out.o.drew HE.out.bl.drew)
        have EA := Lib.hid HE.out.a.drew
        have EB := Lib.hid HE.out.b.drew
        clear HE
        refine wp_region_inv (fun W => BsSt w W (w.heap.size + 1) o) (.still [false, false, true, false, false, false, false, false] (.see [true, false, false, false, false, false, false, false] (.see [false, true, false, false, false, false, false, false] (.see [false, false, false, true, false, false, false, false] (.see [false, false, false, false, true, false, false, false] (.act [false, false, false, false, false, true, false, false] (.act [false, false, false, false, false, false, true, false] (.still [false, false, false, false, false, false, false, true] .stop)))))))) (by kernel_rfl) (by kernel_rfl) (fun _ _ d _ _ h => by cases d <;> exact h) M.out ?_
        generalize W.drew = V at *
        refine sw_still fun K0 hK0 => ?_
        simp only [pickM]
        go_wp2_with fail
        refine hK0.out _ ?_
        clear hK0 K0
        refine sw_see (v := .agg (u8s o)) (by rfl) (by rfl) (fun V hV => ?_) ?_
        · have l := load24M hV.v ho
          go_simp
        refine sw_see (v := .agg (u8s o)) (by rfl) (by rfl) (fun V hV => ?_) ?_
        · have l := load24M hV.v ho
          go_simp
        refine sw_see (v := (.int .i64 (k : Int))) (by rfl) (by rfl) (fun V hV => ?_) ?_
        · go_simp
        refine sw_see (v := (.bool false)) (by rfl) (by rfl) (fun V hV => ?_) ?_
        · go_simp
        refine sw_act fun K2 hK2 => ?_
        simp only [pickM]
        have s1 := store24_run EA.out rfl ho
        go_wp2_with fail
        obtain ⟨x1, hx⟩ : ∃ X, X = World.setRow V (w.heap.size + 1 + 1) (u8s o) := ⟨_, rfl⟩
        rw [← hx]
        have hS : BsSt w x1 (w.heap.size + 1) o := by rw [hx]; exact ⟨M.out.v.farRow (by omega) _, below_setRow' M.out.b (by omega) _⟩
        have E2 := Lib.hid (show Blk x1 (w.heap.size + 1 + 1) 24 (u8s o) by rw [hx]; exact EA.out.setRow _)
        have E3 := Lib.hid (show Blk x1 (w.heap.size + 1 + 1 + 1) 24 _ by rw [hx]; exact EB.out.farRow (by omega) _)
        clear hx s1 EA EB M
        have EA := E2
        have EB := E3
        clear E2 E3
        have M := Lib.hid hS
        go_wp2_with fail
        refine hK2.out _ _ hS ?_
        clear hK2 K2 hS
        refine sw_act fun K2 hK2 => ?_
        simp only [pickM]
        have s1 := store24_run EB.out rfl ho
        go_wp2_with fail
        obtain ⟨x2, hx⟩ : ∃ X, X = World.setRow x1 (w.heap.size + 1 + 1 + 1) (u8s o) := ⟨_, rfl⟩
        rw [← hx]
        have hS : BsSt w x2 (w.heap.size + 1) o := by rw [hx]; exact ⟨M.out.v.farRow (by omega) _, below_setRow' M.out.b (by omega) _⟩
        have E2 := Lib.hid (show Blk x2 (w.heap.size + 1 + 1 + 1) 24 (u8s o) by rw [hx]; exact EB.out.setRow _)
        have E3 := Lib.hid (show Blk x2 (w.heap.size + 1 + 1) 24 _ by rw [hx]; exact EA.out.farRow (by omega) _)
        clear hx s1 EA EB M
        have EB := E2
        have EA := E3
        clear E2 E3
        have M := Lib.hid hS
        go_wp2_with fail
        refine hK2.out _ _ hS ?_
        clear hK2 K2 hS
        refine sw_still fun K0 hK0 => ?_
        simp only [pickM]
        go_wp2_with fail
        refine hK0.out _ ?_
        clear hK0 K0
        change Exit.then _ _ _ _ _
        go_wp2_with fail
        exact bo_ret (p := 12) (u := 13) (q := 14) rfl ho ho rfl rfl rfl rfl EA.out EB.out M.out.b
    by_cases h0 : k = 0
    · subst h0
      rw [bothL_nil m n b o ps h1 hm hw hk]
      have ways : (m < n) ∨ (m = n ∧ b = false) := by
        rcases Nat.lt_or_ge m n with h | h
        · exact .inl h
        · refine .inr ⟨by omega, ?_⟩
          cases b with
          | false => rfl
          | true => exact absurd ⟨by omega, rfl⟩ hw
      clear hP hd hk hB IH hw
      rcases ways with hlt | ⟨rfl, rfl⟩
      · have t0 : ((m : Int) == (n : Int)) = false := by rw [beq_eq_false_iff_ne]; omega
        clear hlt
        go_enter Tryd.func85, Tryd.ntmps85
        go_wp2_with fail
        generalize (((w.alloc (.cells (u32s TT) 32)).alloc (.cells (u8s o) 24)).alloc (.cells (u8s (zer 32)) 24)).alloc (.cells (u8s (zer 32)) 24) = W at *
        have M := Lib.hid (BsSt.mk (w := w) HE.out.o.drew HE.out.bl.drew)
        have EA := Lib.hid HE.out.a.drew
        have EB := Lib.hid HE.out.b.drew
        clear HE
        refine wp_region_inv (fun W => BsSt w W (w.heap.size + 1) o) (.see [true, false, false, false, false] (.see [false, true, false, false, false] (.act [false, false, true, false, false] (.act [false, false, false, true, false] (.still [false, false, false, false, true] .stop))))) (by kernel_rfl) (by kernel_rfl) (fun _ _ d _ _ h => by cases d <;> exact h) M.out ?_
        generalize W.drew = V at *
        refine sw_see (v := .agg (u8s o)) (by rfl) (by rfl) (fun V hV => ?_) ?_
        · have l := load24M hV.v ho
          go_simp
        refine sw_see (v := .agg (u8s o)) (by rfl) (by rfl) (fun V hV => ?_) ?_
        · have l := load24M hV.v ho
          go_simp
        refine sw_act fun K2 hK2 => ?_
        simp only [pickM]
        have s1 := store24_run EA.out rfl ho
        go_wp2_with fail
        obtain ⟨x1, hx⟩ : ∃ X, X = World.setRow V (w.heap.size + 1 + 1) (u8s o) := ⟨_, rfl⟩
        rw [← hx]
        have hS : BsSt w x1 (w.heap.size + 1) o := by rw [hx]; exact ⟨M.out.v.farRow (by omega) _, below_setRow' M.out.b (by omega) _⟩
        have E2 := Lib.hid (show Blk x1 (w.heap.size + 1 + 1) 24 (u8s o) by rw [hx]; exact EA.out.setRow _)
        have E3 := Lib.hid (show Blk x1 (w.heap.size + 1 + 1 + 1) 24 _ by rw [hx]; exact EB.out.farRow (by omega) _)
        clear hx s1 EA EB M
        have EA := E2
        have EB := E3
        clear E2 E3
        have M := Lib.hid hS
        go_wp2_with fail
        refine hK2.out _ _ hS ?_
        clear hK2 K2 hS
        refine sw_act fun K2 hK2 => ?_
        simp only [pickM]
        have s1 := store24_run EB.out rfl ho
        go_wp2_with fail
        obtain ⟨x2, hx⟩ : ∃ X, X = World.setRow x1 (w.heap.size + 1 + 1 + 1) (u8s o) := ⟨_, rfl⟩
        rw [← hx]
        have hS : BsSt w x2 (w.heap.size + 1) o := by rw [hx]; exact ⟨M.out.v.farRow (by omega) _, below_setRow' M.out.b (by omega) _⟩
        have E2 := Lib.hid (show Blk x2 (w.heap.size + 1 + 1 + 1) 24 (u8s o) by rw [hx]; exact EB.out.setRow _)
        have E3 := Lib.hid (show Blk x2 (w.heap.size + 1 + 1) 24 _ by rw [hx]; exact EA.out.farRow (by omega) _)
        clear hx s1 EA EB M
        have EB := E2
        have EA := E3
        clear E2 E3
        have M := Lib.hid hS
        go_wp2_with fail
        refine hK2.out _ _ hS ?_
        clear hK2 K2 hS
        refine sw_still fun K0 hK0 => ?_
        simp only [pickM]
        go_wp2_with fail
        refine hK0.out _ ?_
        clear hK0 K0
        change Exit.then _ _ _ _ _
        go_wp2_with fail
        exact bo_ret (p := 12) (u := 13) (q := 14) rfl ho ho rfl rfl rfl rfl EA.out EB.out M.out.b
      · have t0 : ((m : Int) == (m : Int)) = true := by simp
        go_enter Tryd.func85, Tryd.ntmps85
        go_wp2_with fail
        generalize (((w.alloc (.cells (u32s TT) 32)).alloc (.cells (u8s o) 24)).alloc (.cells (u8s (zer 32)) 24)).alloc (.cells (u8s (zer 32)) 24) = W at *
        have M := Lib.hid (BsSt.mk (w := w) HE.out.o.drew HE.out.bl.drew)
        have EA := Lib.hid HE.out.a.drew
        have EB := Lib.hid HE.out.b.drew
        clear HE
        refine wp_region_inv (fun W => BsSt w W (w.heap.size + 1) o) (.see [true, false, false, false, false] (.see [false, true, false, false, false] (.act [false, false, true, false, false] (.act [false, false, false, true, false] (.still [false, false, false, false, true] .stop))))) (by kernel_rfl) (by kernel_rfl) (fun _ _ d _ _ h => by cases d <;> exact h) M.out ?_
        generalize W.drew = V at *
        refine sw_see (v := .agg (u8s o)) (by rfl) (by rfl) (fun V hV => ?_) ?_
        · have l := load24M hV.v ho
          go_simp
        refine sw_see (v := .agg (u8s o)) (by rfl) (by rfl) (fun V hV => ?_) ?_
        · have l := load24M hV.v ho
          go_simp
        refine sw_act fun K2 hK2 => ?_
        simp only [pickM]
        have s1 := store24_run EA.out rfl ho
        go_wp2_with fail
        obtain ⟨x1, hx⟩ : ∃ X, X = World.setRow V (w.heap.size + 1 + 1) (u8s o) := ⟨_, rfl⟩
        rw [← hx]
        have hS : BsSt w x1 (w.heap.size + 1) o := by rw [hx]; exact ⟨M.out.v.farRow (by omega) _, below_setRow' M.out.b (by omega) _⟩
        have E2 := Lib.hid (show Blk x1 (w.heap.size + 1 + 1) 24 (u8s o) by rw [hx]; exact EA.out.setRow _)
        have E3 := Lib.hid (show Blk x1 (w.heap.size + 1 + 1 + 1) 24 _ by rw [hx]; exact EB.out.farRow (by omega) _)
        clear hx s1 EA EB M
        have EA := E2
        have EB := E3
        clear E2 E3
        have M := Lib.hid hS
        go_wp2_with fail
        refine hK2.out _ _ hS ?_
        clear hK2 K2 hS
        refine sw_act fun K2 hK2 => ?_
        simp only [pickM]
        have s1 := store24_run EB.out rfl ho
        go_wp2_with fail
        obtain ⟨x2, hx⟩ : ∃ X, X = World.setRow x1 (w.heap.size + 1 + 1 + 1) (u8s o) := ⟨_, rfl⟩
        rw [← hx]
        have hS : BsSt w x2 (w.heap.size + 1) o := by rw [hx]; exact ⟨M.out.v.farRow (by omega) _, below_setRow' M.out.b (by omega) _⟩
        have E2 := Lib.hid (show Blk x2 (w.heap.size + 1 + 1 + 1) 24 (u8s o) by rw [hx]; exact EB.out.setRow _)
        have E3 := Lib.hid (show Blk x2 (w.heap.size + 1 + 1) 24 _ by rw [hx]; exact EA.out.farRow (by omega) _)
        clear hx s1 EA EB M
        have EB := E2
        have EA := E3
        clear E2 E3
        have M := Lib.hid hS
        go_wp2_with fail
        refine hK2.out _ _ hS ?_
        clear hK2 K2 hS
        refine sw_still fun K0 hK0 => ?_
        simp only [pickM]
        go_wp2_with fail
        refine hK0.out _ ?_
        clear hK0 K0
        change Exit.then _ _ _ _ _
        go_wp2_with fail
        exact bo_ret (p := 12) (u := 13) (q := 14) rfl ho ho rfl rfl rfl rfl EA.out EB.out M.out.b
    obtain ⟨q, rfl⟩ : ∃ q, k = q + 1 := ⟨k - 1, by omega⟩
    have t1 : ((↑q + 1 : Int) == 0) = false := by rw [beq_eq_false_iff_ne]; omega
    have hql : (ps.take q).length = q := by rw [List.length_take, hk]; omega
    have hlast := (digs_at hd (k := q) (by omega))
    have hne := hcell_ne hd (by omega)
    cases P with
    | none => exact absurd (hP.1 rfl) hne
    | some pd =>
    obtain ⟨pg, po, rfl, hpg⟩ := lv_spot hP hne
    have HLd := Lib.hid (fun W (s : Below w.heap.size w W) => lv_dig (hP.below s) hd q (by omega) Tryd.underlying24 dsize24)
    have sl := fun W => sl72_h (some ⟨pg, po, none⟩) (q + 1) pc q (by omega) W
    have hkI : ((q + 1 : Nat) : Int) = (q : Int) + 1 := by omega
    by_cases he : m = n
    · subst he
      obtain rfl : b = false := by cases b <;> simp_all
      rw [bothL_eq m o ps h1 (by omega), hk, show q + 1 - 1 = q by omega]
      have t0 : ((m : Int) == (m : Int)) = true := by simp
      clear hP hd hk hB IH hw h0 hne hql sl
      generalize ps.getD q [] = last at *
      have HL := Lib.hid hlast
      clear hlast
      by_cases h1 : q = 0
      · subst h1
        rw [show decide (0 + 1 = 1) = true from rfl]
        rw [show po + 0 * 32 = po by omega] at HLd
        go_enter Tryd.func85, Tryd.ntmps85
        go_upto_region 5 with (fail)
        generalize (((w.alloc (.cells (u32s TT) 32)).alloc (.cells (u8s o) 24)).alloc (.cells (u8s (zer 32)) 24)).alloc (.cells (u8s (zer 32)) 24) = W at *
        have l0 := HLd.out W HE.out.bl
        go_wp2_with (refine wpList_fillM rfl 24 (.tmp 15) (.tmp 44) rfl (u8s last) rfl rfl (size24 _ HL.out.1) (by rw [u8s_size, u8s_size, HL.out.1]; rfl) (u8s_one _) ?_; intro w5 E5 B5; have H5 := Lib.hid (And.intro E5 (HE.out.step B5)); clear E5 B5)
        have hgl := HE.out.le
        generalize W.heap.size = gl at *
        have M0 := Lib.hid (show BlSt w w5 gl o last from ⟨H5.out.2, H5.out.1⟩)
        clear H5 HE l0
        have M := Lib.hid (BsSt.mk (w := w) M0.out.l.drew M0.out.s.bl.drew)
        have EA := Lib.hid M0.out.s.a.drew
        have EB := Lib.hid M0.out.s.b.drew
        clear M0
        refine wp_region_inv (fun W => BsSt w W gl last) (.still [false, false, true, false, false, false, false, false] (.see [true, false, false, false, false, false, false, false] (.see [false, true, false, false, false, false, false, false] (.see [false, false, false, true, false, false, false, false] (.see [false, false, false, false, true, false, false, false] (.act [false, false, false, false, false, true, false, false] (.act [false, false, false, false, false, false, true, false] (.still [false, false, false, false, false, false, false, true] .stop)))))))) (by kernel_rfl) (by kernel_rfl) (fun _ _ d _ _ h => by cases d <;> exact h) M.out ?_
        generalize w5.drew = V at *
        refine sw_still fun K0 hK0 => ?_
        simp only [pickM]
        go_wp2_with fail
        refine hK0.out _ ?_
        clear hK0 K0
        refine sw_see (v := .agg (u8s last)) (by rfl) (by rfl) (fun V hV => ?_) ?_
        · have l := load24M hV.v HL.out.1
          go_simp
        refine sw_see (v := .agg (u8s last)) (by rfl) (by rfl) (fun V hV => ?_) ?_
        · have l := load24M hV.v HL.out.1
          go_simp
        refine sw_see (v := (.int .i64 1)) (by rfl) (by rfl) (fun V hV => ?_) ?_
        · go_simp
        refine sw_see (v := (.bool true)) (by rfl) (by rfl) (fun V hV => ?_) ?_
        · go_simp
        refine sw_act fun K2 hK2 => ?_
        simp only [pickM]
        have s1 := store24_run EA.out rfl HL.out.1
        go_wp2_with fail
        obtain ⟨x1, hx⟩ : ∃ X, X = World.setRow V (w.heap.size + 1 + 1) (u8s last) := ⟨_, rfl⟩
        rw [← hx]
        have hS : BsSt w x1 gl last := by rw [hx]; exact ⟨M.out.v.farRow (by omega) _, below_setRow' M.out.b (by omega) _⟩
        have E2 := Lib.hid (show Blk x1 (w.heap.size + 1 + 1) 24 (u8s last) by rw [hx]; exact EA.out.setRow _)
        have E3 := Lib.hid (show Blk x1 (w.heap.size + 1 + 1 + 1) 24 _ by rw [hx]; exact EB.out.farRow (by omega) _)
        clear hx s1 EA EB M
        have EA := E2
        have EB := E3
        clear E2 E3
        have M := Lib.hid hS
        go_wp2_with fail
        refine hK2.out _ _ hS ?_
        clear hK2 K2 hS
        refine sw_act fun K2 hK2 => ?_
        simp only [pickM]
        have s1 := store24_run EB.out rfl HL.out.1
        go_wp2_with fail
        obtain ⟨x2, hx⟩ : ∃ X, X = World.setRow x1 (w.heap.size + 1 + 1 + 1) (u8s last) := ⟨_, rfl⟩
        rw [← hx]
        have hS : BsSt w x2 gl last := by rw [hx]; exact ⟨M.out.v.farRow (by omega) _, below_setRow' M.out.b (by omega) _⟩
        have E2 := Lib.hid (show Blk x2 (w.heap.size + 1 + 1 + 1) 24 (u8s last) by rw [hx]; exact EB.out.setRow _)
        have E3 := Lib.hid (show Blk x2 (w.heap.size + 1 + 1) 24 _ by rw [hx]; exact EA.out.farRow (by omega) _)
        clear hx s1 EA EB M
        have EB := E2
        have EA := E3
        clear E2 E3
        have M := Lib.hid hS
        go_wp2_with fail
        refine hK2.out _ _ hS ?_
        clear hK2 K2 hS
        refine sw_still fun K0 hK0 => ?_
        simp only [pickM]
        go_wp2_with fail
        refine hK0.out _ ?_
        clear hK0 K0
        change Exit.then _ _ _ _ _
        go_wp2_with fail
        exact bo_ret (p := 12) (u := 13) (q := 14) rfl HL.out.1 HL.out.1 rfl rfl rfl rfl EA.out EB.out M.out.b
      · have t2 : ((↑q + 1 : Int) == 1) = false := by rw [beq_eq_false_iff_ne]; omega
        rw [show decide (q + 1 = 1) = false by simp; omega]
        clear h1
        go_enter Tryd.func85, Tryd.ntmps85
        go_upto_region 5 with (fail)
        generalize (((w.alloc (.cells (u32s TT) 32)).alloc (.cells (u8s o) 24)).alloc (.cells (u8s (zer 32)) 24)).alloc (.cells (u8s (zer 32)) 24) = W at *
        have l0 := HLd.out W HE.out.bl
        go_wp2_with (refine wpList_fillM rfl 24 (.tmp 15) (.tmp 44) rfl (u8s last) rfl rfl (size24 _ HL.out.1) (by rw [u8s_size, u8s_size, HL.out.1]; rfl) (u8s_one _) ?_; intro w5 E5 B5; have H5 := Lib.hid (And.intro E5 (HE.out.step B5)); clear E5 B5)
        have hgl := HE.out.le
        generalize W.heap.size = gl at *
        have M0 := Lib.hid (show BlSt w w5 gl o last from ⟨H5.out.2, H5.out.1⟩)
        clear H5 HE l0
        have M := Lib.hid (BsSt.mk (w := w) M0.out.l.drew M0.out.s.bl.drew)
        have EA := Lib.hid M0.out.s.a.drew
        have EB := Lib.hid M0.out.s.b.drew
        clear M0
        refine wp_region_inv (fun W => BsSt w W gl last) (.still [false, false, true, false, false, false, false, false] (.see [true, false, false, false, false, false, false, false] (.see [false, true, false, false, false, false, false, false] (.see [false, false, false, true, false, false, false, false] (.see [false, false, false, false, true, false, false, false] (.act [false, false, false, false, false, true, false, false] (.act [false, false, false, false, false, false, true, false] (.still [false, false, false, false, false, false, false, true] .stop)))))))) (by kernel_rfl) (by kernel_rfl) (fun _ _ d _ _ h => by cases d <;> exact h) M.out ?_
        generalize w5.drew = V at *
        refine sw_still fun K0 hK0 => ?_
        simp only [pickM]
        go_wp2_with fail
        refine hK0.out _ ?_
        clear hK0 K0
        refine sw_see (v := .agg (u8s last)) (by rfl) (by rfl) (fun V hV => ?_) ?_
        · have l := load24M hV.v HL.out.1
          go_simp
        refine sw_see (v := .agg (u8s last)) (by rfl) (by rfl) (fun V hV => ?_) ?_
        · have l := load24M hV.v HL.out.1
          go_simp
        refine sw_see (v := (.int .i64 ((q : Int) + 1))) (by rfl) (by rfl) (fun V hV => ?_) ?_
        · go_simp
        refine sw_see (v := (.bool false)) (by rfl) (by rfl) (fun V hV => ?_) ?_
        · go_simp
        refine sw_act fun K2 hK2 => ?_
        simp only [pickM]
        have s1 := store24_run EA.out rfl HL.out.1
        go_wp2_with fail
        obtain ⟨x1, hx⟩ : ∃ X, X = World.setRow V (w.heap.size + 1 + 1) (u8s last) := ⟨_, rfl⟩
        rw [← hx]
        have hS : BsSt w x1 gl last := by rw [hx]; exact ⟨M.out.v.farRow (by omega) _, below_setRow' M.out.b (by omega) _⟩
        have E2 := Lib.hid (show Blk x1 (w.heap.size + 1 + 1) 24 (u8s last) by rw [hx]; exact EA.out.setRow _)
        have E3 := Lib.hid (show Blk x1 (w.heap.size + 1 + 1 + 1) 24 _ by rw [hx]; exact EB.out.farRow (by omega) _)
        clear hx s1 EA EB M
        have EA := E2
        have EB := E3
        clear E2 E3
        have M := Lib.hid hS
        go_wp2_with fail
        refine hK2.out _ _ hS ?_
        clear hK2 K2 hS
        refine sw_act fun K2 hK2 => ?_
        simp only [pickM]
        have s1 := store24_run EB.out rfl HL.out.1
        go_wp2_with fail
        obtain ⟨x2, hx⟩ : ∃ X, X = World.setRow x1 (w.heap.size + 1 + 1 + 1) (u8s last) := ⟨_, rfl⟩
        rw [← hx]
        have hS : BsSt w x2 gl last := by rw [hx]; exact ⟨M.out.v.farRow (by omega) _, below_setRow' M.out.b (by omega) _⟩
        have E2 := Lib.hid (show Blk x2 (w.heap.size + 1 + 1 + 1) 24 (u8s last) by rw [hx]; exact EB.out.setRow _)
        have E3 := Lib.hid (show Blk x2 (w.heap.size + 1 + 1) 24 _ by rw [hx]; exact EA.out.farRow (by omega) _)
        clear hx s1 EA EB M
        have EB := E2
        have EA := E3
        clear E2 E3
        have M := Lib.hid hS
        go_wp2_with fail
        refine hK2.out _ _ hS ?_
        clear hK2 K2 hS
        refine sw_still fun K0 hK0 => ?_
        simp only [pickM]
        go_wp2_with fail
        refine hK0.out _ ?_
        clear hK0 K0
        change Exit.then _ _ _ _ _
        go_wp2_with fail
        exact bo_ret (p := 12) (u := 13) (q := 14) rfl HL.out.1 HL.out.1 rfl rfl rfl rfl EA.out EB.out M.out.b
    have hlt : m < n := by omega
    have hkk := splitL_bd n (by omega)
    have t0 : ((m : Int) == (n : Int)) = false := by rw [beq_eq_false_iff_ne]; omega
    have HK := Lib.hid (fun W => rsplit_any n (by omega) W)
    by_cases hlo : m ≤ splitL n
    · have hfl := bothL_lo m n b o ps h1 hlt (by omega) hlo
      rw [hk, show q + 1 - 1 = q by omega] at hfl
      have HC := Lib.hid (fun W (s : Below w.heap.size w W) => IH.out (splitL n) (by omega) m b o (ps.take q) W (some ⟨pg, po, none⟩) q pc h1 hlo (by omega) ho hB hql (by omega) (by omega) hpc (digs_take hd q) (lv_htake (hP.below s) hd q))
      have hxo := bothL_ok (splitL n) m b o (ps.take q) h1 hlo ho hB (digs_take hd q)
      rw [hfl]
      clear hfl hP hd hk hB hne IH hql h0 hw he
      generalize ps.getD q [] = last at *
      generalize bothL m (splitL n) b o (ps.take q) = r at *
      generalize splitL n = v at *
      obtain ⟨x, y, z⟩ := r
      simp only at hxo HC ⊢
      have HO := Lib.hid hxo
      have HL := Lib.hid hlast
      clear hxo hlast
      go_enter Tryd.func85, Tryd.ntmps85
      go_upto_region 5 with (fail)
      generalize (((w.alloc (.cells (u32s TT) 32)).alloc (.cells (u8s o) 24)).alloc (.cells (u8s (zer 32)) 24)).alloc (.cells (u8s (zer 32)) 24) = W at *
      have l0 := HLd.out W HE.out.bl
      go_wp2_with (refine wpList_fillM rfl 24 (.tmp 15) (.tmp 44) rfl (u8s last) rfl rfl (size24 _ HL.out.1) (by rw [u8s_size, u8s_size, HL.out.1]; rfl) (u8s_one _) ?_; intro w5 E5 B5; have H5 := Lib.hid (And.intro E5 (HE.out.step B5)); clear E5 B5)
      have hgl := HE.out.le
      generalize W.heap.size = gl at *
      have M0 := Lib.hid (show BlSt w w5 gl o last from ⟨H5.out.2, H5.out.1⟩)
      clear H5 HE l0
      refine (HK.out _).mono ?_
      rintro e w1 ⟨rfl, rfl⟩
      go_upto_region 10 with (fail)
      go_cut [17, 18, 19] (fun v14 v15 v16 wx => ∃ gx gy : Nat, v14 = .pointer (some ⟨gx, 0, none⟩) ∧ v15 = .pointer (some ⟨gy, 0, none⟩) ∧ v16 = .bool z ∧ BlSt w wx gl o last ∧ Blk wx gx 24 (u8s x) ∧ Blk wx gy 24 (u8s y) ∧ gl < gx ∧ gl < gy)
      case first =>
        have M := Lib.hid (M0.out.step (Below.refl _ _).drew)
        clear M0
        refine wp_region_inv (fun W => BlSt w W gl o last) (.still [false, true, true, true, false, true, true, false, false, false, false, false, false, false, false, false, false, false, false, false] (.see [true, false, false, false, false, false, false, false, false, false, false, false, false, false, false, false, false, false, false, false] (.see [false, false, false, false, true, false, false, false, false, false, false, false, false, false, false, false, false, false, false, false] (.see [false, false, false, false, false, false, false, true, false, false, false, false, false, false, false, false, false, false, false, false] (.see [false, false, false, false, false, false, false, false, true, false, false, false, false, false, false, false, false, false, false, false] (.see [false, false, false, false, false, false, false, false, false, true, false, false, false, false, false, false, false, false, false, false] (.fork [false, false, false, false, false, false, false, false, false, false, true, false, false, false, false, false, false, false, false, false] (.still [false, false, false, false, false, false, false, false, false, false, false, true, true, true, true, false, false, false, false, false] (.fork [false, false, false, false, false, false, false, false, false, false, false, false, false, false, false, true, false, false, false, false] (.act [false, false, false, false, false, false, false, false, false, false, false, false, false, false, false, false, true, false, false, false] (.act [false, false, false, false, false, false, false, false, false, false, false, false, false, false, false, false, false, true, false, false] (.act [false, false, false, false, false, false, false, false, false, false, false, false, false, false, false, false, false, false, true, false] (.still [false, false, false, false, false, false, false, false, false, false, false, false, false, false, false, false, false, false, false, true] .stop)))) (.act [false, false, false, false, false, false, false, false, false, false, false, false, false, false, false, false, true, false, false, false] (.act [false, false, false, false, false, false, false, false, false, false, false, false, false, false, false, true, false, false, false, false] (.act [false, false, false, false, false, false, false, false, false, false, false, false, false, false, false, false, false, true, false, false] (.act [false, false, false, false, false, false, false, false, false, false, false, false, false, false, false, false, false, false, true, false] (.still [false, false, false, false, false, false, false, false, false, false, false, false, false, false, false, false, false, false, false, true] .stop))))))) (.fork [false, false, false, false, false, false, false, false, false, false, false, false, false, false, false, true, false, false, false, false] (.fork [false, false, false, false, false, false, false, false, false, false, true, false, false, false, false, false, false, false, false, false] (.still [false, false, false, false, false, false, false, false, false, false, false, true, true, true, true, false, false, false, false, false] (.act [false, false, false, false, false, false, false, false, false, false, false, false, false, false, false, false, true, false, false, false] (.act [false, false, false, false, false, false, false, false, false, false, false, false, false, false, false, false, false, true, false, false] (.act [false, false, false, false, false, false, false, false, false, false, false, false, false, false, false, false, false, false, true, false] (.still [false, false, false, false, false, false, false, false, false, false, false, false, false, false, false, false, false, false, false, true] .stop))))) (.act [false, false, false, false, false, false, false, false, false, false, false, false, false, false, false, false, true, false, false, false] (.act [false, false, false, false, false, false, false, false, false, false, true, false, false, false, false, false, false, false, false, false] (.still [false, false, false, false, false, false, false, false, false, false, false, true, true, true, true, false, false, false, false, false] (.act [false, false, false, false, false, false, false, false, false, false, false, false, false, false, false, false, false, true, false, false] (.act [false, false, false, false, false, false, false, false, false, false, false, false, false, false, false, false, false, false, true, false] (.still [false, false, false, false, false, false, false, false, false, false, false, false, false, false, false, false, false, false, false, true] .stop))))))) (.act [false, false, false, false, false, false, false, false, false, false, false, false, false, false, false, false, true, false, false, false] (.fork [false, false, false, false, false, false, false, false, false, false, true, false, false, false, false, false, false, false, false, false] (.still [false, false, false, false, false, false, false, false, false, false, false, true, true, true, true, false, false, false, false, false] (.act [false, false, false, false, false, false, false, false, false, false, false, false, false, false, false, true, false, false, false, false] (.act [false, false, false, false, false, false, false, false, false, false, false, false, false, false, false, false, false, true, false, false] (.act [false, false, false, false, false, false, false, false, false, false, false, false, false, false, false, false, false, false, true, false] (.still [false, false, false, false, false, false, false, false, false, false, false, false, false, false, false, false, false, false, false, true] .stop))))) (.act [false, false, false, false, false, false, false, false, false, false, false, false, false, false, false, true, false, false, false, false] (.act [false, false, false, false, false, false, false, false, false, false, true, false, false, false, false, false, false, false, false, false] (.still [false, false, false, false, false, false, false, false, false, false, false, true, true, true, true, false, false, false, false, false] (.act [false, false, false, false, false, false, false, false, false, false, false, false, false, false, false, false, false, true, false, false] (.act [false, false, false, false, false, false, false, false, false, false, false, false, false, false, false, false, false, false, true, false] (.still [false, false, false, false, false, false, false, false, false, false, false, false, false, false, false, false, false, false, false, true] .stop)))))))))))))))) (by kernel_rfl) (by kernel_rfl) (fun _ _ d _ _ h => by cases d <;> exact h) M.out ?_
        generalize w5.drew = V at *
        refine sw_still fun K0 hK0 => ?_
        simp only [pickM]
        go_wp2_with fail
        refine hK0.out _ ?_
        clear hK0 K0
        refine sw_see (v := .agg (u32s TT)) (by rfl) (by rfl) (fun V hV => ?_) ?_
        · have l := load32_run hV.s.t
          go_simp
        refine sw_see (v := .agg (u8s o)) (by rfl) (by rfl) (fun V hV => ?_) ?_
        · have l := load24M hV.s.o ho
          go_simp
        refine sw_see (v := (.int .i64 ((q : Int) + 1))) (by rfl) (by rfl) (fun V hV => ?_) ?_
        · go_simp
        refine sw_see (v := (.int .i64 (q : Int))) (by rfl) (by rfl) (fun V hV => ?_) ?_
        · go_simp
          exact IntWalk.i64_in _ (by omega)
        refine sw_see (v := (.slice (some ⟨pg, po, none⟩) q pc)) (by rfl) (by rfl) (fun V hV => ?_) ?_
        · go_simp
        refine sw_fork (fun K2 hK2 => ?_) ?_
        · simp only [pickM]
          go_wp2_with fail
          refine (HC.out _ M.out.s.bl).mono ?_
          rintro e x1 ⟨rfl, hBelow⟩
          have hS := M.out.step hBelow
          clear M hBelow
          have M := Lib.hid hS
          go_wp2_with fail
          refine hK2.out _ _ hS ?_
          clear hK2 K2 hS
          refine sw_still fun K0 hK0 => ?_
          simp only [pickM]
          go_wp2_with fail
          refine hK0.out _ ?_
          clear hK0 K0
          refine sw_fork (fun K2 hK2 => ?_) ?_
          · simp only [pickM]
            go_wp2_with fail
            obtain ⟨x2, hx⟩ : ∃ X, X = World.alloc x1 (.cells (u8s (zer 32)) 24) := ⟨_, rfl⟩
            rw [← hx]
            have hBelow : Below x1.heap.size x1 x2 := by rw [hx]; exact (Below.refl _ _).alloc (Nat.le_refl _) _
            have EX := Lib.hid (show Blk x2 x1.heap.size 24 (u8s (zer 32)) by rw [hx]; exact Blk.new x1 24 _)
            have hnX : gl < x1.heap.size := M.out.l.lt
            have hS := M.out.step hBelow
            clear M hBelow hx
            have M := Lib.hid hS
            go_wp2_with fail
            refine hK2.out _ _ hS ?_
            clear hK2 K2 hS
            refine sw_act fun K2 hK2 => ?_
            simp only [pickM]
            go_wp2_with fail
            obtain ⟨x3, hx⟩ : ∃ X, X = World.alloc x2 (.cells (u8s (zer 32)) 24) := ⟨_, rfl⟩
            rw [← hx]
            have hBelow : Below x2.heap.size x2 x3 := by rw [hx]; exact (Below.refl _ _).alloc (Nat.le_refl _) _
            have EY := Lib.hid (show Blk x3 x2.heap.size 24 (u8s (zer 32)) by rw [hx]; exact Blk.new x2 24 _)
            have hnY : gl < x2.heap.size := M.out.l.lt
            have hXY : x1.heap.size < x2.heap.size := EX.out.lt
            have EX := Lib.hid (EX.out.below hBelow EX.out.lt)
            have hS := M.out.step hBelow
            clear M hBelow hx
            have M := Lib.hid hS
            go_wp2_with fail
            refine hK2.out _ _ hS ?_
            clear hK2 K2 hS
            refine sw_act fun K2 hK2 => ?_
            simp only [pickM]
            have s1 := store24_run EX.out rfl HO.out.1.1
            go_wp2_with fail
            obtain ⟨x4, hx⟩ : ∃ X, X = World.setRow x3 x1.heap.size (u8s x) := ⟨_, rfl⟩
            rw [← hx]
            have hS : BlSt w x4 gl o last := by rw [hx]; exact M.out.row hgl hnX _
            have E2 := Lib.hid (show Blk x4 x1.heap.size 24 (u8s x) by rw [hx]; exact EX.out.setRow _)
            have E3 := Lib.hid (show Blk x4 x2.heap.size 24 _ by rw [hx]; exact EY.out.farRow (by omega) _)
            clear hx s1 EX EY M
            have EX := E2
            have EY := E3
            clear E2 E3
            have M := Lib.hid hS
            go_wp2_with fail
            refine hK2.out _ _ hS ?_
            clear hK2 K2 hS
            refine sw_act fun K2 hK2 => ?_
            simp only [pickM]
            have s1 := store24_run EY.out rfl HO.out.2.1
            go_wp2_with fail
            obtain ⟨x5, hx⟩ : ∃ X, X = World.setRow x4 x2.heap.size (u8s y) := ⟨_, rfl⟩
            rw [← hx]
            have hS : BlSt w x5 gl o last := by rw [hx]; exact M.out.row hgl hnY _
            have E2 := Lib.hid (show Blk x5 x2.heap.size 24 (u8s y) by rw [hx]; exact EY.out.setRow _)
            have E3 := Lib.hid (show Blk x5 x1.heap.size 24 _ by rw [hx]; exact EX.out.farRow (by omega) _)
            clear hx s1 EX EY M
            have EY := E2
            have EX := E3
            clear E2 E3
            have M := Lib.hid hS
            go_wp2_with fail
            refine hK2.out _ _ hS ?_
            clear hK2 K2 hS
            refine sw_still fun K0 hK0 => ?_
            simp only [pickM]
            go_wp2_with fail
            refine hK0.out _ ?_
            clear hK0 K0
            change Exit.then _ _ _ _ _
            go_wp2_with fail
            go_meet
            exact ⟨x1.heap.size, x2.heap.size, rfl, rfl, rfl, M.out, EX.out, EY.out, hnX, hnY⟩
          · refine sw_act fun K2 hK2 => ?_
            simp only [pickM]
            go_wp2_with fail
            obtain ⟨x6, hx⟩ : ∃ X, X = World.alloc x1 (.cells (u8s (zer 32)) 24) := ⟨_, rfl⟩
            rw [← hx]
            have hBelow : Below x1.heap.size x1 x6 := by rw [hx]; exact (Below.refl _ _).alloc (Nat.le_refl _) _
            have EY := Lib.hid (show Blk x6 x1.heap.size 24 (u8s (zer 32)) by rw [hx]; exact Blk.new x1 24 _)
            have hnY : gl < x1.heap.size := M.out.l.lt
            have hS := M.out.step hBelow
            clear M hBelow hx
            have M := Lib.hid hS
            go_wp2_with fail
            refine hK2.out _ _ hS ?_
            clear hK2 K2 hS
            refine sw_act fun K2 hK2 => ?_
            simp only [pickM]
            go_wp2_with fail
            obtain ⟨x7, hx⟩ : ∃ X, X = World.alloc x6 (.cells (u8s (zer 32)) 24) := ⟨_, rfl⟩
            rw [← hx]
            have hBelow : Below x6.heap.size x6 x7 := by rw [hx]; exact (Below.refl _ _).alloc (Nat.le_refl _) _
            have EX := Lib.hid (show Blk x7 x6.heap.size 24 (u8s (zer 32)) by rw [hx]; exact Blk.new x6 24 _)
            have hnX : gl < x6.heap.size := M.out.l.lt
            have hXY : x1.heap.size < x6.heap.size := EY.out.lt
            have EY := Lib.hid (EY.out.below hBelow EY.out.lt)
            have hS := M.out.step hBelow
            clear M hBelow hx
            have M := Lib.hid hS
            go_wp2_with fail
            refine hK2.out _ _ hS ?_
            clear hK2 K2 hS
            refine sw_act fun K2 hK2 => ?_
            simp only [pickM]
            have s1 := store24_run EX.out rfl HO.out.1.1
            go_wp2_with fail
            obtain ⟨x8, hx⟩ : ∃ X, X = World.setRow x7 x6.heap.size (u8s x) := ⟨_, rfl⟩
            rw [← hx]
            have hS : BlSt w x8 gl o last := by rw [hx]; exact M.out.row hgl hnX _
            have E2 := Lib.hid (show Blk x8 x6.heap.size 24 (u8s x) by rw [hx]; exact EX.out.setRow _)
            have E3 := Lib.hid (show Blk x8 x1.heap.size 24 _ by rw [hx]; exact EY.out.farRow (by omega) _)
            clear hx s1 EX EY M
            have EX := E2
            have EY := E3
            clear E2 E3
            have M := Lib.hid hS
            go_wp2_with fail
            refine hK2.out _ _ hS ?_
            clear hK2 K2 hS
            refine sw_act fun K2 hK2 => ?_
            simp only [pickM]
            have s1 := store24_run EY.out rfl HO.out.2.1
            go_wp2_with fail
            obtain ⟨x9, hx⟩ : ∃ X, X = World.setRow x8 x1.heap.size (u8s y) := ⟨_, rfl⟩
            rw [← hx]
            have hS : BlSt w x9 gl o last := by rw [hx]; exact M.out.row hgl hnY _
            have E2 := Lib.hid (show Blk x9 x1.heap.size 24 (u8s y) by rw [hx]; exact EY.out.setRow _)
            have E3 := Lib.hid (show Blk x9 x6.heap.size 24 _ by rw [hx]; exact EX.out.farRow (by omega) _)
            clear hx s1 EX EY M
            have EY := E2
            have EX := E3
            clear E2 E3
            have M := Lib.hid hS
            go_wp2_with fail
            refine hK2.out _ _ hS ?_
            clear hK2 K2 hS
            refine sw_still fun K0 hK0 => ?_
            simp only [pickM]
            go_wp2_with fail
            refine hK0.out _ ?_
            clear hK0 K0
            change Exit.then _ _ _ _ _
            go_wp2_with fail
            go_meet
            exact ⟨x6.heap.size, x1.heap.size, rfl, rfl, rfl, M.out, EX.out, EY.out, hnX, hnY⟩
        refine sw_fork (fun K2 hK2 => ?_) ?_
        · simp only [pickM]
          go_wp2_with fail
          obtain ⟨x10, hx⟩ : ∃ X, X = World.alloc V (.cells (u8s (zer 32)) 24) := ⟨_, rfl⟩
          rw [← hx]
          have hBelow : Below V.heap.size V x10 := by rw [hx]; exact (Below.refl _ _).alloc (Nat.le_refl _) _
          have EX := Lib.hid (show Blk x10 V.heap.size 24 (u8s (zer 32)) by rw [hx]; exact Blk.new V 24 _)
          have hnX : gl < V.heap.size := M.out.l.lt
          have hS := M.out.step hBelow
          clear M hBelow hx
          have M := Lib.hid hS
          go_wp2_with fail
          refine hK2.out _ _ hS ?_
          clear hK2 K2 hS
          refine sw_fork (fun K2 hK2 => ?_) ?_
          · simp only [pickM]
            go_wp2_with fail
            refine (HC.out _ M.out.s.bl).mono ?_
            rintro e x11 ⟨rfl, hBelow⟩
            have EX := Lib.hid (EX.out.below hBelow EX.out.lt)
            have hS := M.out.step hBelow
            clear M hBelow
            have M := Lib.hid hS
            go_wp2_with fail
            refine hK2.out _ _ hS ?_
            clear hK2 K2 hS
            refine sw_still fun K0 hK0 => ?_
            simp only [pickM]
            go_wp2_with fail
            refine hK0.out _ ?_
            clear hK0 K0
            refine sw_act fun K2 hK2 => ?_
            simp only [pickM]
            go_wp2_with fail
            obtain ⟨x12, hx⟩ : ∃ X, X = World.alloc x11 (.cells (u8s (zer 32)) 24) := ⟨_, rfl⟩
            rw [← hx]
            have hBelow : Below x11.heap.size x11 x12 := by rw [hx]; exact (Below.refl _ _).alloc (Nat.le_refl _) _
            have EY := Lib.hid (show Blk x12 x11.heap.size 24 (u8s (zer 32)) by rw [hx]; exact Blk.new x11 24 _)
            have hnY : gl < x11.heap.size := M.out.l.lt
            have hXY : V.heap.size < x11.heap.size := EX.out.lt
            have EX := Lib.hid (EX.out.below hBelow EX.out.lt)
            have hS := M.out.step hBelow
            clear M hBelow hx
            have M := Lib.hid hS
            go_wp2_with fail
            refine hK2.out _ _ hS ?_
            clear hK2 K2 hS
            refine sw_act fun K2 hK2 => ?_
            simp only [pickM]
            have s1 := store24_run EX.out rfl HO.out.1.1
            go_wp2_with fail
            obtain ⟨x13, hx⟩ : ∃ X, X = World.setRow x12 V.heap.size (u8s x) := ⟨_, rfl⟩
            rw [← hx]
            have hS : BlSt w x13 gl o last := by rw [hx]; exact M.out.row hgl hnX _
            have E2 := Lib.hid (show Blk x13 V.heap.size 24 (u8s x) by rw [hx]; exact EX.out.setRow _)
            have E3 := Lib.hid (show Blk x13 x11.heap.size 24 _ by rw [hx]; exact EY.out.farRow (by omega) _)
            clear hx s1 EX EY M
            have EX := E2
            have EY := E3
            clear E2 E3
            have M := Lib.hid hS
            go_wp2_with fail
            refine hK2.out _ _ hS ?_
            clear hK2 K2 hS
            refine sw_act fun K2 hK2 => ?_
            simp only [pickM]
            have s1 := store24_run EY.out rfl HO.out.2.1
            go_wp2_with fail
            obtain ⟨x14, hx⟩ : ∃ X, X = World.setRow x13 x11.heap.size (u8s y) := ⟨_, rfl⟩
            rw [← hx]
            have hS : BlSt w x14 gl o last := by rw [hx]; exact M.out.row hgl hnY _
            have E2 := Lib.hid (show Blk x14 x11.heap.size 24 (u8s y) by rw [hx]; exact EY.out.setRow _)
            have E3 := Lib.hid (show Blk x14 V.heap.size 24 _ by rw [hx]; exact EX.out.farRow (by omega) _)
            clear hx s1 EX EY M
            have EY := E2
            have EX := E3
            clear E2 E3
            have M := Lib.hid hS
            go_wp2_with fail
            refine hK2.out _ _ hS ?_
            clear hK2 K2 hS
            refine sw_still fun K0 hK0 => ?_
            simp only [pickM]
            go_wp2_with fail
            refine hK0.out _ ?_
            clear hK0 K0
            change Exit.then _ _ _ _ _
            go_wp2_with fail
            go_meet
            exact ⟨V.heap.size, x11.heap.size, rfl, rfl, rfl, M.out, EX.out, EY.out, hnX, hnY⟩
          · refine sw_act fun K2 hK2 => ?_
            simp only [pickM]
            go_wp2_with fail
            obtain ⟨x15, hx⟩ : ∃ X, X = World.alloc x10 (.cells (u8s (zer 32)) 24) := ⟨_, rfl⟩
            rw [← hx]
            have hBelow : Below x10.heap.size x10 x15 := by rw [hx]; exact (Below.refl _ _).alloc (Nat.le_refl _) _
            have EY := Lib.hid (show Blk x15 x10.heap.size 24 (u8s (zer 32)) by rw [hx]; exact Blk.new x10 24 _)
            have hnY : gl < x10.heap.size := M.out.l.lt
            have hXY : V.heap.size < x10.heap.size := EX.out.lt
            have EX := Lib.hid (EX.out.below hBelow EX.out.lt)
            have hS := M.out.step hBelow
            clear M hBelow hx
            have M := Lib.hid hS
            go_wp2_with fail
            refine hK2.out _ _ hS ?_
            clear hK2 K2 hS
            refine sw_act fun K2 hK2 => ?_
            simp only [pickM]
            go_wp2_with fail
            refine (HC.out _ M.out.s.bl).mono ?_
            rintro e x16 ⟨rfl, hBelow⟩
            have EX := Lib.hid (EX.out.below hBelow EX.out.lt)
            have EY := Lib.hid (EY.out.below hBelow EY.out.lt)
            have hS := M.out.step hBelow
            clear M hBelow
            have M := Lib.hid hS
            go_wp2_with fail
            refine hK2.out _ _ hS ?_
            clear hK2 K2 hS
            refine sw_still fun K0 hK0 => ?_
            simp only [pickM]
            go_wp2_with fail
            refine hK0.out _ ?_
            clear hK0 K0
            refine sw_act fun K2 hK2 => ?_
            simp only [pickM]
            have s1 := store24_run EX.out rfl HO.out.1.1
            go_wp2_with fail
            obtain ⟨x17, hx⟩ : ∃ X, X = World.setRow x16 V.heap.size (u8s x) := ⟨_, rfl⟩
            rw [← hx]
            have hS : BlSt w x17 gl o last := by rw [hx]; exact M.out.row hgl hnX _
            have E2 := Lib.hid (show Blk x17 V.heap.size 24 (u8s x) by rw [hx]; exact EX.out.setRow _)
            have E3 := Lib.hid (show Blk x17 x10.heap.size 24 _ by rw [hx]; exact EY.out.farRow (by omega) _)
            clear hx s1 EX EY M
            have EX := E2
            have EY := E3
            clear E2 E3
            have M := Lib.hid hS
            go_wp2_with fail
            refine hK2.out _ _ hS ?_
            clear hK2 K2 hS
            refine sw_act fun K2 hK2 => ?_
            simp only [pickM]
            have s1 := store24_run EY.out rfl HO.out.2.1
            go_wp2_with fail
            obtain ⟨x18, hx⟩ : ∃ X, X = World.setRow x17 x10.heap.size (u8s y) := ⟨_, rfl⟩
            rw [← hx]
            have hS : BlSt w x18 gl o last := by rw [hx]; exact M.out.row hgl hnY _
            have E2 := Lib.hid (show Blk x18 x10.heap.size 24 (u8s y) by rw [hx]; exact EY.out.setRow _)
            have E3 := Lib.hid (show Blk x18 V.heap.size 24 _ by rw [hx]; exact EX.out.farRow (by omega) _)
            clear hx s1 EX EY M
            have EY := E2
            have EX := E3
            clear E2 E3
            have M := Lib.hid hS
            go_wp2_with fail
            refine hK2.out _ _ hS ?_
            clear hK2 K2 hS
            refine sw_still fun K0 hK0 => ?_
            simp only [pickM]
            go_wp2_with fail
            refine hK0.out _ ?_
            clear hK0 K0
            change Exit.then _ _ _ _ _
            go_wp2_with fail
            go_meet
            exact ⟨V.heap.size, x10.heap.size, rfl, rfl, rfl, M.out, EX.out, EY.out, hnX, hnY⟩
        · refine sw_act fun K2 hK2 => ?_
          simp only [pickM]
          go_wp2_with fail
          obtain ⟨x19, hx⟩ : ∃ X, X = World.alloc V (.cells (u8s (zer 32)) 24) := ⟨_, rfl⟩
          rw [← hx]
          have hBelow : Below V.heap.size V x19 := by rw [hx]; exact (Below.refl _ _).alloc (Nat.le_refl _) _
          have EY := Lib.hid (show Blk x19 V.heap.size 24 (u8s (zer 32)) by rw [hx]; exact Blk.new V 24 _)
          have hnY : gl < V.heap.size := M.out.l.lt
          have hS := M.out.step hBelow
          clear M hBelow hx
          have M := Lib.hid hS
          go_wp2_with fail
          refine hK2.out _ _ hS ?_
          clear hK2 K2 hS
          refine sw_fork (fun K2 hK2 => ?_) ?_
          · simp only [pickM]
            go_wp2_with fail
            refine (HC.out _ M.out.s.bl).mono ?_
            rintro e x20 ⟨rfl, hBelow⟩
            have EY := Lib.hid (EY.out.below hBelow EY.out.lt)
            have hS := M.out.step hBelow
            clear M hBelow
            have M := Lib.hid hS
            go_wp2_with fail
            refine hK2.out _ _ hS ?_
            clear hK2 K2 hS
            refine sw_still fun K0 hK0 => ?_
            simp only [pickM]
            go_wp2_with fail
            refine hK0.out _ ?_
            clear hK0 K0
            refine sw_act fun K2 hK2 => ?_
            simp only [pickM]
            go_wp2_with fail
            obtain ⟨x21, hx⟩ : ∃ X, X = World.alloc x20 (.cells (u8s (zer 32)) 24) := ⟨_, rfl⟩
            rw [← hx]
            have hBelow : Below x20.heap.size x20 x21 := by rw [hx]; exact (Below.refl _ _).alloc (Nat.le_refl _) _
            have EX := Lib.hid (show Blk x21 x20.heap.size 24 (u8s (zer 32)) by rw [hx]; exact Blk.new x20 24 _)
            have hnX : gl < x20.heap.size := M.out.l.lt
            have hXY : V.heap.size < x20.heap.size := EY.out.lt
            have EY := Lib.hid (EY.out.below hBelow EY.out.lt)
            have hS := M.out.step hBelow
            clear M hBelow hx
            have M := Lib.hid hS
            go_wp2_with fail
            refine hK2.out _ _ hS ?_
            clear hK2 K2 hS
            refine sw_act fun K2 hK2 => ?_
            simp only [pickM]
            have s1 := store24_run EX.out rfl HO.out.1.1
            go_wp2_with fail
            obtain ⟨x22, hx⟩ : ∃ X, X = World.setRow x21 x20.heap.size (u8s x) := ⟨_, rfl⟩
            rw [← hx]
            have hS : BlSt w x22 gl o last := by rw [hx]; exact M.out.row hgl hnX _
            have E2 := Lib.hid (show Blk x22 x20.heap.size 24 (u8s x) by rw [hx]; exact EX.out.setRow _)
            have E3 := Lib.hid (show Blk x22 V.heap.size 24 _ by rw [hx]; exact EY.out.farRow (by omega) _)
            clear hx s1 EX EY M
            have EX := E2
            have EY := E3
            clear E2 E3
            have M := Lib.hid hS
            go_wp2_with fail
            refine hK2.out _ _ hS ?_
            clear hK2 K2 hS
            refine sw_act fun K2 hK2 => ?_
            simp only [pickM]
            have s1 := store24_run EY.out rfl HO.out.2.1
            go_wp2_with fail
            obtain ⟨x23, hx⟩ : ∃ X, X = World.setRow x22 V.heap.size (u8s y) := ⟨_, rfl⟩
            rw [← hx]
            have hS : BlSt w x23 gl o last := by rw [hx]; exact M.out.row hgl hnY _
            have E2 := Lib.hid (show Blk x23 V.heap.size 24 (u8s y) by rw [hx]; exact EY.out.setRow _)
            have E3 := Lib.hid (show Blk x23 x20.heap.size 24 _ by rw [hx]; exact EX.out.farRow (by omega) _)
            clear hx s1 EX EY M
            have EY := E2
            have EX := E3
            clear E2 E3
            have M := Lib.hid hS
            go_wp2_with fail
            refine hK2.out _ _ hS ?_
            clear hK2 K2 hS
            refine sw_still fun K0 hK0 => ?_
            simp only [pickM]
            go_wp2_with fail
            refine hK0.out _ ?_
            clear hK0 K0
            change Exit.then _ _ _ _ _
            go_wp2_with fail
            go_meet
            exact ⟨x20.heap.size, V.heap.size, rfl, rfl, rfl, M.out, EX.out, EY.out, hnX, hnY⟩
          · refine sw_act fun K2 hK2 => ?_
            simp only [pickM]
            go_wp2_with fail
            obtain ⟨x24, hx⟩ : ∃ X, X = World.alloc x19 (.cells (u8s (zer 32)) 24) := ⟨_, rfl⟩
            rw [← hx]
            have hBelow : Below x19.heap.size x19 x24 := by rw [hx]; exact (Below.refl _ _).alloc (Nat.le_refl _) _
            have EX := Lib.hid (show Blk x24 x19.heap.size 24 (u8s (zer 32)) by rw [hx]; exact Blk.new x19 24 _)
            have hnX : gl < x19.heap.size := M.out.l.lt
            have hXY : V.heap.size < x19.heap.size := EY.out.lt
            have EY := Lib.hid (EY.out.below hBelow EY.out.lt)
            have hS := M.out.step hBelow
            clear M hBelow hx
            have M := Lib.hid hS
            go_wp2_with fail
            refine hK2.out _ _ hS ?_
            clear hK2 K2 hS
            refine sw_act fun K2 hK2 => ?_
            simp only [pickM]
            go_wp2_with fail
            refine (HC.out _ M.out.s.bl).mono ?_
            rintro e x25 ⟨rfl, hBelow⟩
            have EX := Lib.hid (EX.out.below hBelow EX.out.lt)
            have EY := Lib.hid (EY.out.below hBelow EY.out.lt)
            have hS := M.out.step hBelow
            clear M hBelow
            have M := Lib.hid hS
            go_wp2_with fail
            refine hK2.out _ _ hS ?_
            clear hK2 K2 hS
            refine sw_still fun K0 hK0 => ?_
            simp only [pickM]
            go_wp2_with fail
            refine hK0.out _ ?_
            clear hK0 K0
            refine sw_act fun K2 hK2 => ?_
            simp only [pickM]
            have s1 := store24_run EX.out rfl HO.out.1.1
            go_wp2_with fail
            obtain ⟨x26, hx⟩ : ∃ X, X = World.setRow x25 x19.heap.size (u8s x) := ⟨_, rfl⟩
            rw [← hx]
            have hS : BlSt w x26 gl o last := by rw [hx]; exact M.out.row hgl hnX _
            have E2 := Lib.hid (show Blk x26 x19.heap.size 24 (u8s x) by rw [hx]; exact EX.out.setRow _)
            have E3 := Lib.hid (show Blk x26 V.heap.size 24 _ by rw [hx]; exact EY.out.farRow (by omega) _)
            clear hx s1 EX EY M
            have EX := E2
            have EY := E3
            clear E2 E3
            have M := Lib.hid hS
            go_wp2_with fail
            refine hK2.out _ _ hS ?_
            clear hK2 K2 hS
            refine sw_act fun K2 hK2 => ?_
            simp only [pickM]
            have s1 := store24_run EY.out rfl HO.out.2.1
            go_wp2_with fail
            obtain ⟨x27, hx⟩ : ∃ X, X = World.setRow x26 V.heap.size (u8s y) := ⟨_, rfl⟩
            rw [← hx]
            have hS : BlSt w x27 gl o last := by rw [hx]; exact M.out.row hgl hnY _
            have E2 := Lib.hid (show Blk x27 V.heap.size 24 (u8s y) by rw [hx]; exact EY.out.setRow _)
            have E3 := Lib.hid (show Blk x27 x19.heap.size 24 _ by rw [hx]; exact EX.out.farRow (by omega) _)
            clear hx s1 EX EY M
            have EY := E2
            have EX := E3
            clear E2 E3
            have M := Lib.hid hS
            go_wp2_with fail
            refine hK2.out _ _ hS ?_
            clear hK2 K2 hS
            refine sw_still fun K0 hK0 => ?_
            simp only [pickM]
            go_wp2_with fail
            refine hK0.out _ ?_
            clear hK0 K0
            change Exit.then _ _ _ _ _
            go_wp2_with fail
            go_meet
            exact ⟨x19.heap.size, V.heap.size, rfl, rfl, rfl, M.out, EX.out, EY.out, hnX, hnY⟩
      case rest =>
      obtain ⟨gx, gy, rfl, rfl, rfl, F, Ex, Ey, hx3, hy3⟩ := hcut
      go_upto_region 11 with (fail)
      have M := Lib.hid (B9.mk (w := w) F.s.t.drew Ex.drew Ey.drew F.l.drew F.s.bl.drew)
      have EA := Lib.hid F.s.a.drew
      have EB := Lib.hid F.s.b.drew
      clear Ex Ey F M0
      refine wp_region_inv (fun W => B9 w W gx gy gl x y last) (.still [false, false, false, false, false, true, false, false, false] (.see [true, false, false, false, false, false, false, false, false] (.see [false, true, false, false, false, false, false, false, false] (.see [false, false, true, false, false, false, false, false, false] (.see [false, false, false, true, false, false, false, false, false] (.act [false, false, false, false, true, false, false, false, false] (.act [false, false, false, false, false, false, true, false, false] (.act [false, false, false, false, false, false, false, true, false] (.still [false, false, false, false, false, false, false, false, true] .stop))))))))) (by kernel_rfl) (by kernel_rfl) (fun _ _ d _ _ h => by cases d <;> exact h) M.out ?_
      generalize wc.drew = V at *
      refine sw_still fun K0 hK0 => ?_
      simp only [pickM]
      go_wp2_with fail
      refine hK0.out _ ?_
      clear hK0 K0
      refine sw_see (v := .agg (u8s x)) (by rfl) (by rfl) (fun V hV => ?_) ?_
      · have l := load24M hV.x HO.out.1.1
        go_simp
      refine sw_see (v := .agg (u32s TT)) (by rfl) (by rfl) (fun V hV => ?_) ?_
      · have l := load32_run hV.t
        go_simp
      refine sw_see (v := .agg (u8s y)) (by rfl) (by rfl) (fun V hV => ?_) ?_
      · have l := load24M hV.y HO.out.2.1
        go_simp
      refine sw_see (v := .agg (u8s last)) (by rfl) (by rfl) (fun V hV => ?_) ?_
      · have l := load24M hV.l HL.out.1
        go_simp
      refine sw_act fun K2 hK2 => ?_
      simp only [pickM]
      go_wp2_with fail
      refine (rnode_any _ y last HO.out.2.1 HL.out.1 HO.out.2.2 HL.out.2).mono ?_
      rintro e x1 ⟨rfl, hBelow⟩
      have EA := Lib.hid (EA.out.below hBelow EA.out.lt)
      have EB := Lib.hid (EB.out.below hBelow EB.out.lt)
      have hS := M.out.step hBelow
      clear M hBelow
      have M := Lib.hid hS
      go_wp2_with fail
      refine hK2.out _ _ hS ?_
      clear hK2 K2 hS
      refine sw_act fun K2 hK2 => ?_
      simp only [pickM]
      have s1 := store24_run EA.out rfl HO.out.1.1
      go_wp2_with fail
      obtain ⟨x2, hx⟩ : ∃ X, X = World.setRow x1 (w.heap.size + 1 + 1) (u8s x) := ⟨_, rfl⟩
      rw [← hx]
      have hS : B9 w x2 gx gy gl x y last := by rw [hx]; exact M.out.row (by omega) (by omega) hgl hx3 hy3 _
      have E2 := Lib.hid (show Blk x2 (w.heap.size + 1 + 1) 24 (u8s x) by rw [hx]; exact EA.out.setRow _)
      have E3 := Lib.hid (show Blk x2 (w.heap.size + 1 + 1 + 1) 24 _ by rw [hx]; exact EB.out.farRow (by omega) _)
      clear hx s1 EA EB M
      have EA := E2
      have EB := E3
      clear E2 E3
      have M := Lib.hid hS
      go_wp2_with fail
      refine hK2.out _ _ hS ?_
      clear hK2 K2 hS
      refine sw_act fun K2 hK2 => ?_
      simp only [pickM]
      have s1 := store24_run EB.out rfl (nodeL_length y last)
      go_wp2_with fail
      obtain ⟨x3, hx⟩ : ∃ X, X = World.setRow x2 (w.heap.size + 1 + 1 + 1) (u8s (nodeL y last)) := ⟨_, rfl⟩
      rw [← hx]
      have hS : B9 w x3 gx gy gl x y last := by rw [hx]; exact M.out.row (by omega) (by omega) hgl hx3 hy3 _
      have E2 := Lib.hid (show Blk x3 (w.heap.size + 1 + 1 + 1) 24 (u8s (nodeL y last)) by rw [hx]; exact EB.out.setRow _)
      have E3 := Lib.hid (show Blk x3 (w.heap.size + 1 + 1) 24 _ by rw [hx]; exact EA.out.farRow (by omega) _)
      clear hx s1 EA EB M
      have EB := E2
      have EA := E3
      clear E2 E3
      have M := Lib.hid hS
      go_wp2_with fail
      refine hK2.out _ _ hS ?_
      clear hK2 K2 hS
      refine sw_still fun K0 hK0 => ?_
      simp only [pickM]
      go_wp2_with fail
      refine hK0.out _ ?_
      clear hK0 K0
      change Exit.then _ _ _ _ _
      go_wp2_with fail
      exact bo_ret (p := 12) (u := 13) (q := 14) rfl HO.out.1.1 (nodeL_length y last) rfl rfl rfl rfl EA.out EB.out M.out.b
    · have hfl := bothL_hi m n b o ps h1 hlt (by omega) (by omega)
      rw [hk, show q + 1 - 1 = q by omega] at hfl
      have hc := fun W (s : Below w.heap.size w W) => IH.out (n - splitL n) (by omega) (m - splitL n) false o (ps.take q) W (some ⟨pg, po, none⟩) q pc (by omega) (by omega) (by omega) ho hB hql (by omega) (by omega) hpc (digs_take hd q) (lv_htake (hP.below s) hd q)
      rw [show ((n - splitL n : Nat) : Int) = (n : Int) - (splitL n : Nat) by omega, show ((m - splitL n : Nat) : Int) = (m : Int) - (splitL n : Nat) by omega] at hc
      have HC := Lib.hid hc
      clear hc
      have hxo := bothL_ok (n - splitL n) (m - splitL n) false o (ps.take q) (by omega) (by omega) ho hB (digs_take hd q)
      rw [hfl]
      clear hfl hP hd hk hB hne IH hql h0 hw he
      generalize ps.getD q [] = last at *
      generalize bothL (m - splitL n) (n - splitL n) false o (ps.take q) = r at *
      generalize splitL n = v at *
      obtain ⟨x, y, z⟩ := r
      simp only at hxo HC ⊢
      have HO := Lib.hid hxo
      have HL := Lib.hid hlast
      clear hxo hlast
      go_enter Tryd.func85, Tryd.ntmps85
      go_upto_region 5 with (fail)
      generalize (((w.alloc (.cells (u32s TT) 32)).alloc (.cells (u8s o) 24)).alloc (.cells (u8s (zer 32)) 24)).alloc (.cells (u8s (zer 32)) 24) = W at *
      have l0 := HLd.out W HE.out.bl
      go_wp2_with (refine wpList_fillM rfl 24 (.tmp 15) (.tmp 44) rfl (u8s last) rfl rfl (size24 _ HL.out.1) (by rw [u8s_size, u8s_size, HL.out.1]; rfl) (u8s_one _) ?_; intro w5 E5 B5; have H5 := Lib.hid (And.intro E5 (HE.out.step B5)); clear E5 B5)
      have hgl := HE.out.le
      generalize W.heap.size = gl at *
      have M0 := Lib.hid (show BlSt w w5 gl o last from ⟨H5.out.2, H5.out.1⟩)
      clear H5 HE l0
      refine (HK.out _).mono ?_
      rintro e w1 ⟨rfl, rfl⟩
      go_upto_region 12 with (fail)
      go_cut [20, 21, 22] (fun v14 v15 v16 wx => ∃ gx gy : Nat, v14 = .pointer (some ⟨gx, 0, none⟩) ∧ v15 = .pointer (some ⟨gy, 0, none⟩) ∧ v16 = .bool z ∧ BlSt w wx gl o last ∧ Blk wx gx 24 (u8s x) ∧ Blk wx gy 24 (u8s y) ∧ gl < gx ∧ gl < gy)
      case first =>
        have M := Lib.hid (M0.out.step (Below.refl _ _).drew)
        clear M0
        refine wp_region_inv (fun W => BlSt w W gl o last) (.still [false, true, true, false, true, true, false, false, true, true, false, false, false, false, false, false, false, false, false, false, false, false, false] (.see [true, false, false, false, false, false, false, false, false, false, false, false, false, false, false, false, false, false, false, false, false, false, false] (.see [false, false, false, true, false, false, false, false, false, false, false, false, false, false, false, false, false, false, false, false, false, false, false] (.see [false, false, false, false, false, false, true, false, false, false, false, false, false, false, false, false, false, false, false, false, false, false, false] (.see [false, false, false, false, false, false, false, true, false, false, false, false, false, false, false, false, false, false, false, false, false, false, false] (.see [false, false, false, false, false, false, false, false, false, false, true, false, false, false, false, false, false, false, false, false, false, false, false] (.see [false, false, false, false, false, false, false, false, false, false, false, true, false, false, false, false, false, false, false, false, false, false, false] (.see [false, false, false, false, false, false, false, false, false, false, false, false, true, false, false, false, false, false, false, false, false, false, false] (.fork [false, false, false, false, false, false, false, false, false, false, false, false, false, true, false, false, false, false, false, false, false, false, false] (.still [false, false, false, false, false, false, false, false, false, false, false, false, false, false, true, true, true, true, false, false, false, false, false] (.fork [false, false, false, false, false, false, false, false, false, false, false, false, false, false, false, false, false, false, true, false, false, false, false] (.act [false, false, false, false, false, false, false, false, false, false, false, false, false, false, false, false, false, false, false, true, false, false, false] (.act [false, false, false, false, false, false, false, false, false, false, false, false, false, false, false, false, false, false, false, false, true, false, false] (.act [false, false, false, false, false, false, false, false, false, false, false, false, false, false, false, false, false, false, false, false, false, true, false] (.still [false, false, false, false, false, false, false, false, false, false, false, false, false, false, false, false, false, false, false, false, false, false, true] .stop)))) (.act [false, false, false, false, false, false, false, false, false, false, false, false, false, false, false, false, false, false, false, true, false, false, false] (.act [false, false, false, false, false, false, false, false, false, false, false, false, false, false, false, false, false, false, true, false, false, false, false] (.act [false, false, false, false, false, false, false, false, false, false, false, false, false, false, false, false, false, false, false, false, true, false, false] (.act [false, false, false, false, false, false, false, false, false, false, false, false, false, false, false, false, false, false, false, false, false, true, false] (.still [false, false, false, false, false, false, false, false, false, false, false, false, false, false, false, false, false, false, false, false, false, false, true] .stop))))))) (.fork [false, false, false, false, false, false, false, false, false, false, false, false, false, false, false, false, false, false, true, false, false, false, false] (.fork [false, false, false, false, false, false, false, false, false, false, false, false, false, true, false, false, false, false, false, false, false, false, false] (.still [false, false, false, false, false, false, false, false, false, false, false, false, false, false, true, true, true, true, false, false, false, false, false] (.act [false, false, false, false, false, false, false, false, false, false, false, false, false, false, false, false, false, false, false, true, false, false, false] (.act [false, false, false, false, false, false, false, false, false, false, false, false, false, false, false, false, false, false, false, false, true, false, false] (.act [false, false, false, false, false, false, false, false, false, false, false, false, false, false, false, false, false, false, false, false, false, true, false] (.still [false, false, false, false, false, false, false, false, false, false, false, false, false, false, false, false, false, false, false, false, false, false, true] .stop))))) (.act [false, false, false, false, false, false, false, false, false, false, false, false, false, false, false, false, false, false, false, true, false, false, false] (.act [false, false, false, false, false, false, false, false, false, false, false, false, false, true, false, false, false, false, false, false, false, false, false] (.still [false, false, false, false, false, false, false, false, false, false, false, false, false, false, true, true, true, true, false, false, false, false, false] (.act [false, false, false, false, false, false, false, false, false, false, false, false, false, false, false, false, false, false, false, false, true, false, false] (.act [false, false, false, false, false, false, false, false, false, false, false, false, false, false, false, false, false, false, false, false, false, true, false] (.still [false, false, false, false, false, false, false, false, false, false, false, false, false, false, false, false, false, false, false, false, false, false, true] .stop))))))) (.act [false, false, false, false, false, false, false, false, false, false, false, false, false, false, false, false, false, false, false, true, false, false, false] (.fork [false, false, false, false, false, false, false, false, false, false, false, false, false, true, false, false, false, false, false, false, false, false, false] (.still [false, false, false, false, false, false, false, false, false, false, false, false, false, false, true, true, true, true, false, false, false, false, false] (.act [false, false, false, false, false, false, false, false, false, false, false, false, false, false, false, false, false, false, true, false, false, false, false] (.act [false, false, false, false, false, false, false, false, false, false, false, false, false, false, false, false, false, false, false, false, true, false, false] (.act [false, false, false, false, false, false, false, false, false, false, false, false, false, false, false, false, false, false, false, false, false, true, false] (.still [false, false, false, false, false, false, false, false, false, false, false, false, false, false, false, false, false, false, false, false, false, false, true] .stop))))) (.act [false, false, false, false, false, false, false, false, false, false, false, false, false, false, false, false, false, false, true, false, false, false, false] (.act [false, false, false, false, false, false, false, false, false, false, false, false, false, true, false, false, false, false, false, false, false, false, false] (.still [false, false, false, false, false, false, false, false, false, false, false, false, false, false, true, true, true, true, false, false, false, false, false] (.act [false, false, false, false, false, false, false, false, false, false, false, false, false, false, false, false, false, false, false, false, true, false, false] (.act [false, false, false, false, false, false, false, false, false, false, false, false, false, false, false, false, false, false, false, false, false, true, false] (.still [false, false, false, false, false, false, false, false, false, false, false, false, false, false, false, false, false, false, false, false, false, false, true] .stop)))))))))))))))))) (by kernel_rfl) (by kernel_rfl) (fun _ _ d _ _ h => by cases d <;> exact h) M.out ?_
        generalize w5.drew = V at *
        refine sw_still fun K0 hK0 => ?_
        simp only [pickM]
        go_wp2_with fail
        refine hK0.out _ ?_
        clear hK0 K0
        refine sw_see (v := .agg (u32s TT)) (by rfl) (by rfl) (fun V hV => ?_) ?_
        · have l := load32_run hV.s.t
          go_simp
        refine sw_see (v := (.int .i64 ((m : Int) - v))) (by rfl) (by rfl) (fun V hV => ?_) ?_
        · go_simp
          exact IntWalk.i64_in _ (by omega)
        refine sw_see (v := (.int .i64 ((n : Int) - v))) (by rfl) (by rfl) (fun V hV => ?_) ?_
        · go_simp
          exact IntWalk.i64_in _ (by omega)
        refine sw_see (v := .agg (u8s o)) (by rfl) (by rfl) (fun V hV => ?_) ?_
        · have l := load24M hV.s.o ho
          go_simp
        refine sw_see (v := (.int .i64 ((q : Int) + 1))) (by rfl) (by rfl) (fun V hV => ?_) ?_
        · go_simp
        refine sw_see (v := (.int .i64 (q : Int))) (by rfl) (by rfl) (fun V hV => ?_) ?_
        · go_simp
          exact IntWalk.i64_in _ (by omega)
        refine sw_see (v := (.slice (some ⟨pg, po, none⟩) q pc)) (by rfl) (by rfl) (fun V hV => ?_) ?_
        · go_simp
        refine sw_fork (fun K2 hK2 => ?_) ?_
        · simp only [pickM]
          go_wp2_with fail
          refine (HC.out _ M.out.s.bl).mono ?_
          rintro e x1 ⟨rfl, hBelow⟩
          have hS := M.out.step hBelow
          clear M hBelow
          have M := Lib.hid hS
          go_wp2_with fail
          refine hK2.out _ _ hS ?_
          clear hK2 K2 hS
          refine sw_still fun K0 hK0 => ?_
          simp only [pickM]
          go_wp2_with fail
          refine hK0.out _ ?_
          clear hK0 K0
          refine sw_fork (fun K2 hK2 => ?_) ?_
          · simp only [pickM]
            go_wp2_with fail
            obtain ⟨x2, hx⟩ : ∃ X, X = World.alloc x1 (.cells (u8s (zer 32)) 24) := ⟨_, rfl⟩
            rw [← hx]
            have hBelow : Below x1.heap.size x1 x2 := by rw [hx]; exact (Below.refl _ _).alloc (Nat.le_refl _) _
            have EX := Lib.hid (show Blk x2 x1.heap.size 24 (u8s (zer 32)) by rw [hx]; exact Blk.new x1 24 _)
            have hnX : gl < x1.heap.size := M.out.l.lt
            have hS := M.out.step hBelow
            clear M hBelow hx
            have M := Lib.hid hS
            go_wp2_with fail
            refine hK2.out _ _ hS ?_
            clear hK2 K2 hS
            refine sw_act fun K2 hK2 => ?_
            simp only [pickM]
            go_wp2_with fail
            obtain ⟨x3, hx⟩ : ∃ X, X = World.alloc x2 (.cells (u8s (zer 32)) 24) := ⟨_, rfl⟩
            rw [← hx]
            have hBelow : Below x2.heap.size x2 x3 := by rw [hx]; exact (Below.refl _ _).alloc (Nat.le_refl _) _
            have EY := Lib.hid (show Blk x3 x2.heap.size 24 (u8s (zer 32)) by rw [hx]; exact Blk.new x2 24 _)
            have hnY : gl < x2.heap.size := M.out.l.lt
            have hXY : x1.heap.size < x2.heap.size := EX.out.lt
            have EX := Lib.hid (EX.out.below hBelow EX.out.lt)
            have hS := M.out.step hBelow
            clear M hBelow hx
            have M := Lib.hid hS
            go_wp2_with fail
            refine hK2.out _ _ hS ?_
            clear hK2 K2 hS
            refine sw_act fun K2 hK2 => ?_
            simp only [pickM]
            have s1 := store24_run EX.out rfl HO.out.1.1
            go_wp2_with fail
            obtain ⟨x4, hx⟩ : ∃ X, X = World.setRow x3 x1.heap.size (u8s x) := ⟨_, rfl⟩
            rw [← hx]
            have hS : BlSt w x4 gl o last := by rw [hx]; exact M.out.row hgl hnX _
            have E2 := Lib.hid (show Blk x4 x1.heap.size 24 (u8s x) by rw [hx]; exact EX.out.setRow _)
            have E3 := Lib.hid (show Blk x4 x2.heap.size 24 _ by rw [hx]; exact EY.out.farRow (by omega) _)
            clear hx s1 EX EY M
            have EX := E2
            have EY := E3
            clear E2 E3
            have M := Lib.hid hS
            go_wp2_with fail
            refine hK2.out _ _ hS ?_
            clear hK2 K2 hS
            refine sw_act fun K2 hK2 => ?_
            simp only [pickM]
            have s1 := store24_run EY.out rfl HO.out.2.1
            go_wp2_with fail
            obtain ⟨x5, hx⟩ : ∃ X, X = World.setRow x4 x2.heap.size (u8s y) := ⟨_, rfl⟩
            rw [← hx]
            have hS : BlSt w x5 gl o last := by rw [hx]; exact M.out.row hgl hnY _
            have E2 := Lib.hid (show Blk x5 x2.heap.size 24 (u8s y) by rw [hx]; exact EY.out.setRow _)
            have E3 := Lib.hid (show Blk x5 x1.heap.size 24 _ by rw [hx]; exact EX.out.farRow (by omega) _)
            clear hx s1 EX EY M
            have EY := E2
            have EX := E3
            clear E2 E3
            have M := Lib.hid hS
            go_wp2_with fail
            refine hK2.out _ _ hS ?_
            clear hK2 K2 hS
            refine sw_still fun K0 hK0 => ?_
            simp only [pickM]
            go_wp2_with fail
            refine hK0.out _ ?_
            clear hK0 K0
            change Exit.then _ _ _ _ _
            go_wp2_with fail
            go_meet
            exact ⟨x1.heap.size, x2.heap.size, rfl, rfl, rfl, M.out, EX.out, EY.out, hnX, hnY⟩
          · refine sw_act fun K2 hK2 => ?_
            simp only [pickM]
            go_wp2_with fail
            obtain ⟨x6, hx⟩ : ∃ X, X = World.alloc x1 (.cells (u8s (zer 32)) 24) := ⟨_, rfl⟩
            rw [← hx]
            have hBelow : Below x1.heap.size x1 x6 := by rw [hx]; exact (Below.refl _ _).alloc (Nat.le_refl _) _
            have EY := Lib.hid (show Blk x6 x1.heap.size 24 (u8s (zer 32)) by rw [hx]; exact Blk.new x1 24 _)
            have hnY : gl < x1.heap.size := M.out.l.lt
            have hS := M.out.step hBelow
            clear M hBelow hx
            have M := Lib.hid hS
            go_wp2_with fail
            refine hK2.out _ _ hS ?_
            clear hK2 K2 hS
            refine sw_act fun K2 hK2 => ?_
            simp only [pickM]
            go_wp2_with fail
            obtain ⟨x7, hx⟩ : ∃ X, X = World.alloc x6 (.cells (u8s (zer 32)) 24) := ⟨_, rfl⟩
            rw [← hx]
            have hBelow : Below x6.heap.size x6 x7 := by rw [hx]; exact (Below.refl _ _).alloc (Nat.le_refl _) _
            have EX := Lib.hid (show Blk x7 x6.heap.size 24 (u8s (zer 32)) by rw [hx]; exact Blk.new x6 24 _)
            have hnX : gl < x6.heap.size := M.out.l.lt
            have hXY : x1.heap.size < x6.heap.size := EY.out.lt
            have EY := Lib.hid (EY.out.below hBelow EY.out.lt)
            have hS := M.out.step hBelow
            clear M hBelow hx
            have M := Lib.hid hS
            go_wp2_with fail
            refine hK2.out _ _ hS ?_
            clear hK2 K2 hS
            refine sw_act fun K2 hK2 => ?_
            simp only [pickM]
            have s1 := store24_run EX.out rfl HO.out.1.1
            go_wp2_with fail
            obtain ⟨x8, hx⟩ : ∃ X, X = World.setRow x7 x6.heap.size (u8s x) := ⟨_, rfl⟩
            rw [← hx]
            have hS : BlSt w x8 gl o last := by rw [hx]; exact M.out.row hgl hnX _
            have E2 := Lib.hid (show Blk x8 x6.heap.size 24 (u8s x) by rw [hx]; exact EX.out.setRow _)
            have E3 := Lib.hid (show Blk x8 x1.heap.size 24 _ by rw [hx]; exact EY.out.farRow (by omega) _)
            clear hx s1 EX EY M
            have EX := E2
            have EY := E3
            clear E2 E3
            have M := Lib.hid hS
            go_wp2_with fail
            refine hK2.out _ _ hS ?_
            clear hK2 K2 hS
            refine sw_act fun K2 hK2 => ?_
            simp only [pickM]
            have s1 := store24_run EY.out rfl HO.out.2.1
            go_wp2_with fail
            obtain ⟨x9, hx⟩ : ∃ X, X = World.setRow x8 x1.heap.size (u8s y) := ⟨_, rfl⟩
            rw [← hx]
            have hS : BlSt w x9 gl o last := by rw [hx]; exact M.out.row hgl hnY _
            have E2 := Lib.hid (show Blk x9 x1.heap.size 24 (u8s y) by rw [hx]; exact EY.out.setRow _)
            have E3 := Lib.hid (show Blk x9 x6.heap.size 24 _ by rw [hx]; exact EX.out.farRow (by omega) _)
            clear hx s1 EX EY M
            have EY := E2
            have EX := E3
            clear E2 E3
            have M := Lib.hid hS
            go_wp2_with fail
            refine hK2.out _ _ hS ?_
            clear hK2 K2 hS
            refine sw_still fun K0 hK0 => ?_
            simp only [pickM]
            go_wp2_with fail
            refine hK0.out _ ?_
            clear hK0 K0
            change Exit.then _ _ _ _ _
            go_wp2_with fail
            go_meet
            exact ⟨x6.heap.size, x1.heap.size, rfl, rfl, rfl, M.out, EX.out, EY.out, hnX, hnY⟩
        refine sw_fork (fun K2 hK2 => ?_) ?_
        · simp only [pickM]
          go_wp2_with fail
          obtain ⟨x10, hx⟩ : ∃ X, X = World.alloc V (.cells (u8s (zer 32)) 24) := ⟨_, rfl⟩
          rw [← hx]
          have hBelow : Below V.heap.size V x10 := by rw [hx]; exact (Below.refl _ _).alloc (Nat.le_refl _) _
          have EX := Lib.hid (show Blk x10 V.heap.size 24 (u8s (zer 32)) by rw [hx]; exact Blk.new V 24 _)
          have hnX : gl < V.heap.size := M.out.l.lt
          have hS := M.out.step hBelow
          clear M hBelow hx
          have M := Lib.hid hS
          go_wp2_with fail
          refine hK2.out _ _ hS ?_
          clear hK2 K2 hS
          refine sw_fork (fun K2 hK2 => ?_) ?_
          · simp only [pickM]
            go_wp2_with fail
            refine (HC.out _ M.out.s.bl).mono ?_
            rintro e x11 ⟨rfl, hBelow⟩
            have EX := Lib.hid (EX.out.below hBelow EX.out.lt)
            have hS := M.out.step hBelow
            clear M hBelow
            have M := Lib.hid hS
            go_wp2_with fail
            refine hK2.out _ _ hS ?_
            clear hK2 K2 hS
            refine sw_still fun K0 hK0 => ?_
            simp only [pickM]
            go_wp2_with fail
            refine hK0.out _ ?_
            clear hK0 K0
            refine sw_act fun K2 hK2 => ?_
            simp only [pickM]
            go_wp2_with fail
            obtain ⟨x12, hx⟩ : ∃ X, X = World.alloc x11 (.cells (u8s (zer 32)) 24) := ⟨_, rfl⟩
            rw [← hx]
            have hBelow : Below x11.heap.size x11 x12 := by rw [hx]; exact (Below.refl _ _).alloc (Nat.le_refl _) _
            have EY := Lib.hid (show Blk x12 x11.heap.size 24 (u8s (zer 32)) by rw [hx]; exact Blk.new x11 24 _)
            have hnY : gl < x11.heap.size := M.out.l.lt
            have hXY : V.heap.size < x11.heap.size := EX.out.lt
            have EX := Lib.hid (EX.out.below hBelow EX.out.lt)
            have hS := M.out.step hBelow
            clear M hBelow hx
            have M := Lib.hid hS
            go_wp2_with fail
            refine hK2.out _ _ hS ?_
            clear hK2 K2 hS
            refine sw_act fun K2 hK2 => ?_
            simp only [pickM]
            have s1 := store24_run EX.out rfl HO.out.1.1
            go_wp2_with fail
            obtain ⟨x13, hx⟩ : ∃ X, X = World.setRow x12 V.heap.size (u8s x) := ⟨_, rfl⟩
            rw [← hx]
            have hS : BlSt w x13 gl o last := by rw [hx]; exact M.out.row hgl hnX _
            have E2 := Lib.hid (show Blk x13 V.heap.size 24 (u8s x) by rw [hx]; exact EX.out.setRow _)
            have E3 := Lib.hid (show Blk x13 x11.heap.size 24 _ by rw [hx]; exact EY.out.farRow (by omega) _)
            clear hx s1 EX EY M
            have EX := E2
            have EY := E3
            clear E2 E3
            have M := Lib.hid hS
            go_wp2_with fail
            refine hK2.out _ _ hS ?_
            clear hK2 K2 hS
            refine sw_act fun K2 hK2 => ?_
            simp only [pickM]
            have s1 := store24_run EY.out rfl HO.out.2.1
            go_wp2_with fail
            obtain ⟨x14, hx⟩ : ∃ X, X = World.setRow x13 x11.heap.size (u8s y) := ⟨_, rfl⟩
            rw [← hx]
            have hS : BlSt w x14 gl o last := by rw [hx]; exact M.out.row hgl hnY _
            have E2 := Lib.hid (show Blk x14 x11.heap.size 24 (u8s y) by rw [hx]; exact EY.out.setRow _)
            have E3 := Lib.hid (show Blk x14 V.heap.size 24 _ by rw [hx]; exact EX.out.farRow (by omega) _)
            clear hx s1 EX EY M
            have EY := E2
            have EX := E3
            clear E2 E3
            have M := Lib.hid hS
            go_wp2_with fail
            refine hK2.out _ _ hS ?_
            clear hK2 K2 hS
            refine sw_still fun K0 hK0 => ?_
            simp only [pickM]
            go_wp2_with fail
            refine hK0.out _ ?_
            clear hK0 K0
            change Exit.then _ _ _ _ _
            go_wp2_with fail
            go_meet
            exact ⟨V.heap.size, x11.heap.size, rfl, rfl, rfl, M.out, EX.out, EY.out, hnX, hnY⟩
          · refine sw_act fun K2 hK2 => ?_
            simp only [pickM]
            go_wp2_with fail
            obtain ⟨x15, hx⟩ : ∃ X, X = World.alloc x10 (.cells (u8s (zer 32)) 24) := ⟨_, rfl⟩
            rw [← hx]
            have hBelow : Below x10.heap.size x10 x15 := by rw [hx]; exact (Below.refl _ _).alloc (Nat.le_refl _) _
            have EY := Lib.hid (show Blk x15 x10.heap.size 24 (u8s (zer 32)) by rw [hx]; exact Blk.new x10 24 _)
            have hnY : gl < x10.heap.size := M.out.l.lt
            have hXY : V.heap.size < x10.heap.size := EX.out.lt
            have EX := Lib.hid (EX.out.below hBelow EX.out.lt)
            have hS := M.out.step hBelow
            clear M hBelow hx
            have M := Lib.hid hS
            go_wp2_with fail
            refine hK2.out _ _ hS ?_
            clear hK2 K2 hS
            refine sw_act fun K2 hK2 => ?_
            simp only [pickM]
            go_wp2_with fail
            refine (HC.out _ M.out.s.bl).mono ?_
            rintro e x16 ⟨rfl, hBelow⟩
            have EX := Lib.hid (EX.out.below hBelow EX.out.lt)
            have EY := Lib.hid (EY.out.below hBelow EY.out.lt)
            have hS := M.out.step hBelow
            clear M hBelow
            have M := Lib.hid hS
            go_wp2_with fail
            refine hK2.out _ _ hS ?_
            clear hK2 K2 hS
            refine sw_still fun K0 hK0 => ?_
            simp only [pickM]
            go_wp2_with fail
            refine hK0.out _ ?_
            clear hK0 K0
            refine sw_act fun K2 hK2 => ?_
            simp only [pickM]
            have s1 := store24_run EX.out rfl HO.out.1.1
            go_wp2_with fail
            obtain ⟨x17, hx⟩ : ∃ X, X = World.setRow x16 V.heap.size (u8s x) := ⟨_, rfl⟩
            rw [← hx]
            have hS : BlSt w x17 gl o last := by rw [hx]; exact M.out.row hgl hnX _
            have E2 := Lib.hid (show Blk x17 V.heap.size 24 (u8s x) by rw [hx]; exact EX.out.setRow _)
            have E3 := Lib.hid (show Blk x17 x10.heap.size 24 _ by rw [hx]; exact EY.out.farRow (by omega) _)
            clear hx s1 EX EY M
            have EX := E2
            have EY := E3
            clear E2 E3
            have M := Lib.hid hS
            go_wp2_with fail
            refine hK2.out _ _ hS ?_
            clear hK2 K2 hS
            refine sw_act fun K2 hK2 => ?_
            simp only [pickM]
            have s1 := store24_run EY.out rfl HO.out.2.1
            go_wp2_with fail
            obtain ⟨x18, hx⟩ : ∃ X, X = World.setRow x17 x10.heap.size (u8s y) := ⟨_, rfl⟩
            rw [← hx]
            have hS : BlSt w x18 gl o last := by rw [hx]; exact M.out.row hgl hnY _
            have E2 := Lib.hid (show Blk x18 x10.heap.size 24 (u8s y) by rw [hx]; exact EY.out.setRow _)
            have E3 := Lib.hid (show Blk x18 V.heap.size 24 _ by rw [hx]; exact EX.out.farRow (by omega) _)
            clear hx s1 EX EY M
            have EY := E2
            have EX := E3
            clear E2 E3
            have M := Lib.hid hS
            go_wp2_with fail
            refine hK2.out _ _ hS ?_
            clear hK2 K2 hS
            refine sw_still fun K0 hK0 => ?_
            simp only [pickM]
            go_wp2_with fail
            refine hK0.out _ ?_
            clear hK0 K0
            change Exit.then _ _ _ _ _
            go_wp2_with fail
            go_meet
            exact ⟨V.heap.size, x10.heap.size, rfl, rfl, rfl, M.out, EX.out, EY.out, hnX, hnY⟩
        · refine sw_act fun K2 hK2 => ?_
          simp only [pickM]
          go_wp2_with fail
          obtain ⟨x19, hx⟩ : ∃ X, X = World.alloc V (.cells (u8s (zer 32)) 24) := ⟨_, rfl⟩
          rw [← hx]
          have hBelow : Below V.heap.size V x19 := by rw [hx]; exact (Below.refl _ _).alloc (Nat.le_refl _) _
          have EY := Lib.hid (show Blk x19 V.heap.size 24 (u8s (zer 32)) by rw [hx]; exact Blk.new V 24 _)
          have hnY : gl < V.heap.size := M.out.l.lt
          have hS := M.out.step hBelow
          clear M hBelow hx
          have M := Lib.hid hS
          go_wp2_with fail
          refine hK2.out _ _ hS ?_
          clear hK2 K2 hS
          refine sw_fork (fun K2 hK2 => ?_) ?_
          · simp only [pickM]
            go_wp2_with fail
            refine (HC.out _ M.out.s.bl).mono ?_
            rintro e x20 ⟨rfl, hBelow⟩
            have EY := Lib.hid (EY.out.below hBelow EY.out.lt)
            have hS := M.out.step hBelow
            clear M hBelow
            have M := Lib.hid hS
            go_wp2_with fail
            refine hK2.out _ _ hS ?_
            clear hK2 K2 hS
            refine sw_still fun K0 hK0 => ?_
            simp only [pickM]
            go_wp2_with fail
            refine hK0.out _ ?_
            clear hK0 K0
            refine sw_act fun K2 hK2 => ?_
            simp only [pickM]
            go_wp2_with fail
            obtain ⟨x21, hx⟩ : ∃ X, X = World.alloc x20 (.cells (u8s (zer 32)) 24) := ⟨_, rfl⟩
            rw [← hx]
            have hBelow : Below x20.heap.size x20 x21 := by rw [hx]; exact (Below.refl _ _).alloc (Nat.le_refl _) _
            have EX := Lib.hid (show Blk x21 x20.heap.size 24 (u8s (zer 32)) by rw [hx]; exact Blk.new x20 24 _)
            have hnX : gl < x20.heap.size := M.out.l.lt
            have hXY : V.heap.size < x20.heap.size := EY.out.lt
            have EY := Lib.hid (EY.out.below hBelow EY.out.lt)
            have hS := M.out.step hBelow
            clear M hBelow hx
            have M := Lib.hid hS
            go_wp2_with fail
            refine hK2.out _ _ hS ?_
            clear hK2 K2 hS
            refine sw_act fun K2 hK2 => ?_
            simp only [pickM]
            have s1 := store24_run EX.out rfl HO.out.1.1
            go_wp2_with fail
            obtain ⟨x22, hx⟩ : ∃ X, X = World.setRow x21 x20.heap.size (u8s x) := ⟨_, rfl⟩
            rw [← hx]
            have hS : BlSt w x22 gl o last := by rw [hx]; exact M.out.row hgl hnX _
            have E2 := Lib.hid (show Blk x22 x20.heap.size 24 (u8s x) by rw [hx]; exact EX.out.setRow _)
            have E3 := Lib.hid (show Blk x22 V.heap.size 24 _ by rw [hx]; exact EY.out.farRow (by omega) _)
            clear hx s1 EX EY M
            have EX := E2
            have EY := E3
            clear E2 E3
            have M := Lib.hid hS
            go_wp2_with fail
            refine hK2.out _ _ hS ?_
            clear hK2 K2 hS
            refine sw_act fun K2 hK2 => ?_
            simp only [pickM]
            have s1 := store24_run EY.out rfl HO.out.2.1
            go_wp2_with fail
            obtain ⟨x23, hx⟩ : ∃ X, X = World.setRow x22 V.heap.size (u8s y) := ⟨_, rfl⟩
            rw [← hx]
            have hS : BlSt w x23 gl o last := by rw [hx]; exact M.out.row hgl hnY _
            have E2 := Lib.hid (show Blk x23 V.heap.size 24 (u8s y) by rw [hx]; exact EY.out.setRow _)
            have E3 := Lib.hid (show Blk x23 x20.heap.size 24 _ by rw [hx]; exact EX.out.farRow (by omega) _)
            clear hx s1 EX EY M
            have EY := E2
            have EX := E3
            clear E2 E3
            have M := Lib.hid hS
            go_wp2_with fail
            refine hK2.out _ _ hS ?_
            clear hK2 K2 hS
            refine sw_still fun K0 hK0 => ?_
            simp only [pickM]
            go_wp2_with fail
            refine hK0.out _ ?_
            clear hK0 K0
            change Exit.then _ _ _ _ _
            go_wp2_with fail
            go_meet
            exact ⟨x20.heap.size, V.heap.size, rfl, rfl, rfl, M.out, EX.out, EY.out, hnX, hnY⟩
          · refine sw_act fun K2 hK2 => ?_
            simp only [pickM]
            go_wp2_with fail
            obtain ⟨x24, hx⟩ : ∃ X, X = World.alloc x19 (.cells (u8s (zer 32)) 24) := ⟨_, rfl⟩
            rw [← hx]
            have hBelow : Below x19.heap.size x19 x24 := by rw [hx]; exact (Below.refl _ _).alloc (Nat.le_refl _) _
            have EX := Lib.hid (show Blk x24 x19.heap.size 24 (u8s (zer 32)) by rw [hx]; exact Blk.new x19 24 _)
            have hnX : gl < x19.heap.size := M.out.l.lt
            have hXY : V.heap.size < x19.heap.size := EY.out.lt
            have EY := Lib.hid (EY.out.below hBelow EY.out.lt)
            have hS := M.out.step hBelow
            clear M hBelow hx
            have M := Lib.hid hS
            go_wp2_with fail
            refine hK2.out _ _ hS ?_
            clear hK2 K2 hS
            refine sw_act fun K2 hK2 => ?_
            simp only [pickM]
            go_wp2_with fail
            refine (HC.out _ M.out.s.bl).mono ?_
            rintro e x25 ⟨rfl, hBelow⟩
            have EX := Lib.hid (EX.out.below hBelow EX.out.lt)
            have EY := Lib.hid (EY.out.below hBelow EY.out.lt)
            have hS := M.out.step hBelow
            clear M hBelow
            have M := Lib.hid hS
            go_wp2_with fail
            refine hK2.out _ _ hS ?_
            clear hK2 K2 hS
            refine sw_still fun K0 hK0 => ?_
            simp only [pickM]
            go_wp2_with fail
            refine hK0.out _ ?_
            clear hK0 K0
            refine sw_act fun K2 hK2 => ?_
            simp only [pickM]
            have s1 := store24_run EX.out rfl HO.out.1.1
            go_wp2_with fail
            obtain ⟨x26, hx⟩ : ∃ X, X = World.setRow x25 x19.heap.size (u8s x) := ⟨_, rfl⟩
            rw [← hx]
            have hS : BlSt w x26 gl o last := by rw [hx]; exact M.out.row hgl hnX _
            have E2 := Lib.hid (show Blk x26 x19.heap.size 24 (u8s x) by rw [hx]; exact EX.out.setRow _)
            have E3 := Lib.hid (show Blk x26 V.heap.size 24 _ by rw [hx]; exact EY.out.farRow (by omega) _)
            clear hx s1 EX EY M
            have EX := E2
            have EY := E3
            clear E2 E3
            have M := Lib.hid hS
            go_wp2_with fail
            refine hK2.out _ _ hS ?_
            clear hK2 K2 hS
            refine sw_act fun K2 hK2 => ?_
            simp only [pickM]
            have s1 := store24_run EY.out rfl HO.out.2.1
            go_wp2_with fail
            obtain ⟨x27, hx⟩ : ∃ X, X = World.setRow x26 V.heap.size (u8s y) := ⟨_, rfl⟩
            rw [← hx]
            have hS : BlSt w x27 gl o last := by rw [hx]; exact M.out.row hgl hnY _
            have E2 := Lib.hid (show Blk x27 V.heap.size 24 (u8s y) by rw [hx]; exact EY.out.setRow _)
            have E3 := Lib.hid (show Blk x27 x19.heap.size 24 _ by rw [hx]; exact EX.out.farRow (by omega) _)
            clear hx s1 EX EY M
            have EY := E2
            have EX := E3
            clear E2 E3
            have M := Lib.hid hS
            go_wp2_with fail
            refine hK2.out _ _ hS ?_
            clear hK2 K2 hS
            refine sw_still fun K0 hK0 => ?_
            simp only [pickM]
            go_wp2_with fail
            refine hK0.out _ ?_
            clear hK0 K0
            change Exit.then _ _ _ _ _
            go_wp2_with fail
            go_meet
            exact ⟨x19.heap.size, V.heap.size, rfl, rfl, rfl, M.out, EX.out, EY.out, hnX, hnY⟩
      case rest =>
      obtain ⟨gx, gy, rfl, rfl, rfl, F, Ex, Ey, hx3, hy3⟩ := hcut
      go_upto_region 13 with (fail)
      have M := Lib.hid (B9.mk (w := w) F.s.t.drew Ex.drew Ey.drew F.l.drew F.s.bl.drew)
      have EA := Lib.hid F.s.a.drew
      have EB := Lib.hid F.s.b.drew
      clear Ex Ey F M0
      refine wp_region_inv (fun W => B9 w W gx gy gl x y last) (.still [false, false, false, false, false, false, false, false, true, false, false, false] (.see [true, false, false, false, false, false, false, false, false, false, false, false] (.see [false, true, false, false, false, false, false, false, false, false, false, false] (.see [false, false, true, false, false, false, false, false, false, false, false, false] (.see [false, false, false, false, true, false, false, false, false, false, false, false] (.see [false, false, false, false, false, true, false, false, false, false, false, false] (.see [false, false, false, false, false, false, true, false, false, false, false, false] (.act [false, false, false, true, false, false, false, false, false, false, false, false] (.act [false, false, false, false, false, false, false, true, false, false, false, false] (.act [false, false, false, false, false, false, false, false, false, true, false, false] (.act [false, false, false, false, false, false, false, false, false, false, true, false] (.still [false, false, false, false, false, false, false, false, false, false, false, true] .stop)))))))))))) (by kernel_rfl) (by kernel_rfl) (fun _ _ d _ _ h => by cases d <;> exact h) M.out ?_
      generalize wc.drew = V at *
      refine sw_still fun K0 hK0 => ?_
      simp only [pickM]
      go_wp2_with fail
      refine hK0.out _ ?_
      clear hK0 K0
      refine sw_see (v := .agg (u32s TT)) (by rfl) (by rfl) (fun V hV => ?_) ?_
      · have l := load32_run hV.t
        go_simp
      refine sw_see (v := .agg (u8s last)) (by rfl) (by rfl) (fun V hV => ?_) ?_
      · have l := load24M hV.l HL.out.1
        go_simp
      refine sw_see (v := .agg (u8s x)) (by rfl) (by rfl) (fun V hV => ?_) ?_
      · have l := load24M hV.x HO.out.1.1
        go_simp
      refine sw_see (v := .agg (u32s TT)) (by rfl) (by rfl) (fun V hV => ?_) ?_
      · have l := load32_run hV.t
        go_simp
      refine sw_see (v := .agg (u8s last)) (by rfl) (by rfl) (fun V hV => ?_) ?_
      · have l := load24M hV.l HL.out.1
        go_simp
      refine sw_see (v := .agg (u8s y)) (by rfl) (by rfl) (fun V hV => ?_) ?_
      · have l := load24M hV.y HO.out.2.1
        go_simp
      refine sw_act fun K2 hK2 => ?_
      simp only [pickM]
      go_wp2_with fail
      refine (rnode_any _ last x HL.out.1 HO.out.1.1 HL.out.2 HO.out.1.2).mono ?_
      rintro e x1 ⟨rfl, hBelow⟩
      have EA := Lib.hid (EA.out.below hBelow EA.out.lt)
      have EB := Lib.hid (EB.out.below hBelow EB.out.lt)
      have hS := M.out.step hBelow
      clear M hBelow
      have M := Lib.hid hS
      go_wp2_with fail
      refine hK2.out _ _ hS ?_
      clear hK2 K2 hS
      refine sw_act fun K2 hK2 => ?_
      simp only [pickM]
      go_wp2_with fail
      refine (rnode_any _ last y HL.out.1 HO.out.2.1 HL.out.2 HO.out.2.2).mono ?_
      rintro e x2 ⟨rfl, hBelow⟩
      have EA := Lib.hid (EA.out.below hBelow EA.out.lt)
      have EB := Lib.hid (EB.out.below hBelow EB.out.lt)
      have hS := M.out.step hBelow
      clear M hBelow
      have M := Lib.hid hS
      go_wp2_with fail
      refine hK2.out _ _ hS ?_
      clear hK2 K2 hS
      refine sw_act fun K2 hK2 => ?_
      simp only [pickM]
      have s1 := store24_run EA.out rfl (nodeL_length last x)
      go_wp2_with fail
      obtain ⟨x3, hx⟩ : ∃ X, X = World.setRow x2 (w.heap.size + 1 + 1) (u8s (nodeL last x)) := ⟨_, rfl⟩
      rw [← hx]
      have hS : B9 w x3 gx gy gl x y last := by rw [hx]; exact M.out.row (by omega) (by omega) hgl hx3 hy3 _
      have E2 := Lib.hid (show Blk x3 (w.heap.size + 1 + 1) 24 (u8s (nodeL last x)) by rw [hx]; exact EA.out.setRow _)
      have E3 := Lib.hid (show Blk x3 (w.heap.size + 1 + 1 + 1) 24 _ by rw [hx]; exact EB.out.farRow (by omega) _)
      clear hx s1 EA EB M
      have EA := E2
      have EB := E3
      clear E2 E3
      have M := Lib.hid hS
      go_wp2_with fail
      refine hK2.out _ _ hS ?_
      clear hK2 K2 hS
      refine sw_act fun K2 hK2 => ?_
      simp only [pickM]
      have s1 := store24_run EB.out rfl (nodeL_length last y)
      go_wp2_with fail
      obtain ⟨x4, hx⟩ : ∃ X, X = World.setRow x3 (w.heap.size + 1 + 1 + 1) (u8s (nodeL last y)) := ⟨_, rfl⟩
      rw [← hx]
      have hS : B9 w x4 gx gy gl x y last := by rw [hx]; exact M.out.row (by omega) (by omega) hgl hx3 hy3 _
      have E2 := Lib.hid (show Blk x4 (w.heap.size + 1 + 1 + 1) 24 (u8s (nodeL last y)) by rw [hx]; exact EB.out.setRow _)
      have E3 := Lib.hid (show Blk x4 (w.heap.size + 1 + 1) 24 _ by rw [hx]; exact EA.out.farRow (by omega) _)
      clear hx s1 EA EB M
      have EB := E2
      have EA := E3
      clear E2 E3
      have M := Lib.hid hS
      go_wp2_with fail
      refine hK2.out _ _ hS ?_
      clear hK2 K2 hS
      refine sw_still fun K0 hK0 => ?_
      simp only [pickM]
      go_wp2_with fail
      refine hK0.out _ ?_
      clear hK0 K0
      change Exit.then _ _ _ _ _
      go_wp2_with fail
      exact bo_ret (p := 12) (u := 13) (q := 14) rfl (nodeL_length last x) (nodeL_length last y) rfl rfl rfl rfl EA.out EB.out M.out.b
end Go.Proofs.YtediocpdpghbfaaDoor
