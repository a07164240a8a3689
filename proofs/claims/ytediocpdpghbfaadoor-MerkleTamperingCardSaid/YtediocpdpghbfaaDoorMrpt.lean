/- Merkle: Path of the reference. -/
import Derived.Test.YtediocpdpghbfaaDoorGenP
import Derived.Test.YtediocpdpghbfaaDoorRegv
set_option linter.unusedSimpArgs false
set_option linter.unusedVariables false
namespace Go.Proofs.YtediocpdpghbfaaDoor
open Go Go.RowKit

theorem LV.take {w : World} {A : Option Addr} {xs : List Value} (h : LV w A xs) (m : Nat) : LV w A (xs.take m) := by
  refine ⟨fun e => by rw [h.1 e]; simp, fun ad hA hne => ?_⟩
  obtain ⟨h1, h2, h3⟩ := h.2 ad hA (fun e => hne (by rw [e]; simp))
  refine ⟨h1, h2, fun j v hj => h3 j v ?_⟩
  rw [List.getElem?_take] at hj
  split at hj
  · exact hj
  · cases hj
theorem hcell_take : ∀ (hs : List (List Nat)) (hd : Digs hs) (m : Nat), hcell (hs.take m) = (hcell hs).take (32 * m)
  | [], _, m => by simp [hcell]
  | a :: hs, hd, 0 => by simp [hcell]
  | a :: hs, hd, m + 1 => by
    have ha := (hd a (List.mem_cons_self ..)).1
    have ih := hcell_take hs (fun x hx => hd x (List.mem_cons_of_mem _ hx)) m
    unfold hcell at ih ⊢
    simp only [List.take_succ_cons, List.flatMap_cons]
    rw [ih, List.take_append, bvals_length, ha, show 32 * (m + 1) - 32 = 32 * m by omega, List.take_of_length_le (l := bvals a) (by rw [bvals_length, ha]; omega)]
theorem lv_htake {w : World} {A : Option Addr} {hs : List (List Nat)} (h : LV w A (hcell hs)) (hd : Digs hs) (m : Nat) : LV w A (hcell (hs.take m)) := by
  rw [hcell_take hs hd m]; exact h.take _
theorem digs_take {hs : List (List Nat)} (h : Digs hs) (m : Nat) : Digs (hs.take m) := fun x hx => h x (List.mem_of_mem_take hx)
theorem pathL_ok : ∀ (n i : Nat) (h : List Nat) (ps : List (List Nat)), 1 ≤ n → i < n → h.length = 32 → Bytes h → Digs ps → (pathL n i h ps).1.length = 32 ∧ Bytes (pathL n i h ps).1 := by
  intro n i h ps h1 hi hh hb hd
  rcases Nat.lt_or_ge n 2 with h2 | h2
  · obtain rfl : n = 1 := by omega
    rw [pathL_one]; exact ⟨hh, hb⟩
  · by_cases hp : ps.length = 0
    · rw [pathL_nil n i h ps h2 hp]; exact ⟨hh, hb⟩
    · rcases Nat.lt_or_ge i (splitL n) with hlo | hhi
      · rw [pathL_lo n i h ps h2 hp hlo]; exact ⟨nodeL_length _ _, sha_bytes _⟩
      · rw [pathL_hi n i h ps h2 hp hhi]; exact ⟨nodeL_length _ _, sha_bytes _⟩
theorem elem72 : Tryd.prog.elem 72 = 24 := by kernel_rfl
theorem sl72_h (A : Option Addr) (n cap k : Nat) (hk : k ≤ cap) (w : World) :
    (Instr.sliceAt 72 (.slice A n cap) none (some (.int .i64 (k : Int))) none).run Tryd.prog w = .ok (.slice A k cap) w := by
  have hsz := dsize24
  rw [run_sliceAt_slice w 72 _ _ _ _ (by rw [elem72]; exact Tryd.underlying72), run_slice_h w 72 _ n cap (by rw [elem72]; exact Tryd.underlying72) .i64 k (by omega) (by omega)]
  cases hq : Tryd.prog.info? 24 with
  | none => simp [hq] at hsz
  | some i =>
    have hi : i.size = 32 := by simpa [hq] using hsz
    cases A <;> simp [elem72, sizeOf, typeInfo, hq, hi, sliced, Addr.add]
structure Rp2 (w W : World) (g gl : Nat) (h last : List Nat) : Prop where
  t : Blk W g 32 (u32s TT)
  h : Blk W (g + 1) 24 (u8s h)
  r : Blk W (g + 1 + 1) 24 (u8s (zer 32))
  l : Blk W gl 24 (u8s last)
  b : Below g w W
theorem Rp2.step {w W W' : World} {g gl : Nat} {h last : List Nat} (k : Rp2 w W g gl h last) (b : Below W.heap.size W W') : Rp2 w W' g gl h last :=
  ⟨k.t.below b k.t.lt, k.h.below b k.h.lt, k.r.below b k.r.lt, k.l.below b k.l.lt, k.b.trans (b.mono (Nat.le_of_lt k.t.lt))⟩
theorem Rp2.row {w W : World} {g gl : Nat} {h last : List Nat} (k : Rp2 w W g gl h last) {e : Nat} (h1 : g + 1 + 1 < e) (h2 : gl < e) (cs : Array Value) : Rp2 w (W.setRow e cs) g gl h last :=
  ⟨k.t.farRow (by omega) _, k.h.farRow (by omega) _, k.r.farRow (by omega) _, k.l.farRow (by omega) _, below_setRow' k.b (by omega) _⟩
structure RpSt (w W : World) (g : Nat) (h : List Nat) : Prop where
  t : Blk W g 32 (u32s TT)
  h : Blk W (g + 1) 24 (u8s h)
  r : Blk W (g + 1 + 1) 24 (u8s (zer 32))
  b : Below g w W
theorem RpSt.step {w W W' : World} {g : Nat} {h : List Nat} (k : RpSt w W g h) (b : Below W.heap.size W W') : RpSt w W' g h :=
  ⟨k.t.below b k.t.lt, k.h.below b k.h.lt, k.r.below b k.r.lt, k.b.trans (b.mono (Nat.le_of_lt k.t.lt))⟩
theorem rp_start (w : World) (h : List Nat) : RpSt w (((w.alloc (.cells (u32s TT) 32)).alloc (.cells (u8s h) 24)).alloc (.cells (u8s (zer 32)) 24)) w.heap.size h :=
  ⟨((Blk.new _ _ _).alloc _).alloc _, (Blk.new1 _ _ _ _).alloc _, Blk.new2 _ _ _ _ _, (((Below.refl _ _).alloc (Nat.le_refl _) _).alloc (by simp) _).alloc (by simp only [size1]; omega) _⟩
/-- the results: a digest in a fresh variable, and a bool -/
theorem rp_ret {fn : Func} {a : Act} {w W : World} {g : Nat} {p u : Tmp} {d : List Nat} {x : Value} (h : fn.results = #[.cell p 24, .tmp u]) (hd : d.length = 32) (hp : a.tmps.getD p undef = .pointer (some ⟨g, 0, none⟩)) (hx : a.tmps.getD u undef = x) (hdf : a.defers = [])
    (hE : Blk W g 24 (u8s (zer 32))) (hg : w.heap.size ≤ g) (hB : Below w.heap.size w W) : bodyPost Tryd.prog fn (fun e w' => e = .returned (.tuple #[.agg (u8s d), x]) ∧ Below w.heap.size w w') .ret a (W.setRow g (u8s d)) := by
  subst hx
  exact bodyPost_ret (v := .tuple #[.agg (u8s d), a.tmps.getD u undef]) (results_cell25_2 h _ _ g 24 _ (0, 0) _ hp (hE.setRow _) Tryd.underlying24 rfl (size24 _ hd)) hdf ⟨rfl, below_setRow' hB hg _⟩
def alc24 : Sem Value := Instr.alloc 24 true (.tuple #[])
theorem alc24_rule : Instr.alloc 24 true (.tuple #[]) = alc24 := rfl
theorem alc24_run (w : World) : alc24.run Tryd.prog w = .ok (.pointer (some ⟨w.heap.size, 0, none⟩)) (w.alloc (.cells (u8s (zer 32)) 24)) := by
  have h := info24
  unfold alc24 Instr.alloc
  cases hq : Tryd.prog.info? 24 with
  | none => rw [hq] at h; cases h
  | some i =>
    rw [hq] at h
    simp only [Option.map_some, Option.some.injEq, Prod.mk.injEq] at h
    simp [newVar, newRow, zeroValue, typeInfo, hq, h.1, Value.cells]
attribute [local go_sem ↓] ld24 st24 ld32 alc24_rule
attribute [local go_sem] alc24_run
set_option maxRecDepth 100000 in
set_option maxHeartbeats 4000000 in
theorem rpath_any : ∀ (n i : Nat) (h : List Nat) (ps : List (List Nat)) (w : World) (P : Option Addr) (k pc : Nat), 1 ≤ n → n ≤ 65536 → i < n → h.length = 32 → Bytes h → ps.length = k → k ≤ 100000 → k ≤ pc → pc ≤ 9223372036854775807 → Digs ps → LV w P (hcell ps) →
    Calls Tryd.prog 55 #[.agg (u32s TT), .int .i64 n, .int .i64 i, .agg (u8s h), .slice P k pc] w fun e w' => e = .returned (.tuple #[.agg (u8s (pathL n i h ps).1), .bool (pathL n i h ps).2]) ∧ Below w.heap.size w w' := by
  intro n
  induction n using Nat.strongRecOn with
  | ind n ih =>
    intro i h ps w P k pc h1 hn hi hh hB hk hk2 hkp hpc hd hP
    have IH := Lib.hid ih
    clear ih
    have HP := Lib.hid (And.intro hk (And.intro hd (And.intro hP hB)))
    have hok := pathL_ok n i h ps h1 hi hh hB hd
    rcases Nat.lt_or_ge n 2 with h2 | h2
    · obtain rfl : n = 1 := by omega
      rw [pathL_one, hk] at *
      have l1 := load24M (rp_start w h).h hh
      have s1 := store24_run (rp_start w h).r rfl hh
      have HE := Lib.hid (rp_start w h)
      clear hP hd hk hB hok
      by_cases h0 : k = 0
      · subst h0
        go_enter Tryd.func55, Tryd.ntmps55
        go_wp2_with fail
        exact rp_ret (p := 10) (u := 11) rfl hh rfl rfl rfl HE.out.r (by omega) HE.out.b
      · have t0 : ((k : Int) == 0) = false := by rw [beq_eq_false_iff_ne]; omega
        have e0 : decide (k = 0) = false := by simp; omega
        rw [e0]
        clear e0 h0
        go_enter Tryd.func55, Tryd.ntmps55
        go_wp2_with fail
        exact rp_ret (p := 10) (u := 11) rfl hh rfl rfl rfl HE.out.r (by omega) HE.out.b
    · have t1 : ((n : Int) == 1) = false := by rw [beq_eq_false_iff_ne]; omega
      by_cases h0 : k = 0
      · subst h0
        rw [pathL_nil n i h ps h2 hk]
        have l1 := load24M (rp_start w h).h hh
        have s1 := store24_run (rp_start w h).r rfl hh
        have HE := Lib.hid (rp_start w h)
        clear hP hd hk hB hok
        go_enter Tryd.func55, Tryd.ntmps55
        go_wp2_with fail
        exact rp_ret (p := 10) (u := 11) rfl hh rfl rfl rfl HE.out.r (by omega) HE.out.b
      · have hkk := splitL_bd n h2
        have t0 : ((k : Int) == 0) = false := by rw [beq_eq_false_iff_ne]; omega
        have HK := Lib.hid (fun W => rsplit_any n (by omega) W)
        obtain ⟨q, hq⟩ : ∃ q, k - 1 = q := ⟨_, rfl⟩
        obtain rfl : k = q + 1 := by omega
        have hql : (ps.take q).length = q := by rw [List.length_take, hk]; omega
        have hlast := (digs_at hd (k := q) (by omega))
        have hne := hcell_ne hd (by omega)
        cases P with
        | none => exact absurd (hP.1 rfl) hne
        | some pd =>
        obtain ⟨pg, po, rfl, hpg⟩ := lv_spot hP hne
        have HLd := Lib.hid (fun W (s : Below w.heap.size w W) => lv_dig (hP.below s) hd q (by omega) Tryd.underlying24 dsize24)
        have sl := fun W => sl72_h (some ⟨pg, po, none⟩) (q + 1) pc q (by omega) W
        have hkI : ((q + 1 : Nat) : Int) = (q : Int) + 1 := by omega
        by_cases hlo : i < splitL n
        · have hpl := pathL_lo n i h ps h2 (by omega) hlo
          rw [hk, show q + 1 - 1 = q by omega] at hpl
          have HC := Lib.hid (fun W (s : Below w.heap.size w W) => IH.out (splitL n) (by omega) i h (ps.take q) W (some ⟨pg, po, none⟩) q pc (by omega) (by omega) hlo hh hB hql (by omega) (by omega) hpc (digs_take hd q) (lv_htake (hP.below s) hd q))
          have hxo := pathL_ok (splitL n) i h (ps.take q) (by omega) hlo hh hB (digs_take hd q)
          rw [hpl]
          rw [hpl] at hok
          clear hpl hP hd hk hB hne IH
          generalize ps.getD q [] = last at *
          generalize (pathL (splitL n) i h (ps.take q)) = r at *
          generalize splitL n = m at *
          obtain ⟨x, b⟩ := r
          simp only at hok hxo HC ⊢
          obtain ⟨W, hW⟩ : ∃ W, W = ((w.alloc (.cells (u32s TT) 32)).alloc (.cells (u8s h) 24)).alloc (.cells (u8s (zer 32)) 24) := ⟨_, rfl⟩
          have HE := Lib.hid (show RpSt w W w.heap.size h by rw [hW]; exact rp_start w h)
          have l0 := HLd.out W HE.out.b
          go_enter Tryd.func55, Tryd.ntmps55
          go_wp2_with fail
          rw [← hW]
          clear hW
          refine (HK.out _).mono ?_
          rintro e w1 ⟨rfl, rfl⟩
          go_wp2_with (refine wpList_fillM rfl 24 (.tmp 13) (.tmp 35) rfl (u8s last) rfl rfl (size24 _ hlast.1) (by rw [u8s_size, u8s_size, hlast.1]; rfl) (u8s_one _) ?_; intro w5 E5 B5; have H5 := Lib.hid (And.intro E5 (HE.out.step B5)); clear E5 B5)

          have hgl := HE.out.r.lt
          generalize W.heap.size = gl at *
          have M := Lib.hid (show Rp2 w w5.drew w.heap.size gl h last from ⟨H5.out.2.t, H5.out.2.h, H5.out.2.r, H5.out.1, H5.out.2.b.drew⟩)
          have lt := load32_run M.out.t
          have lh := load24M M.out.h hh
          clear H5 HE l0
          refine wp_region_pv (.still [false, true, true, false, true, true, false, false, false, false, false, false, false, false, false, false] (.look [true, false, false, true, false, false, true, true, true, false, false, false, false, false, false, false] (.fork [false, false, false, false, false, false, false, false, false, true, false, false, false, false, false, false] (.still [false, false, false, false, false, false, false, false, false, false, true, true, true, false, false, false] (.act [false, false, false, false, false, false, false, false, false, false, false, false, false, true, false, false] (.act [false, false, false, false, false, false, false, false, false, false, false, false, false, false, true, false] (.still [false, false, false, false, false, false, false, false, false, false, false, false, false, false, false, true] .stop)))) (.act [false, false, false, false, false, false, false, false, false, false, false, false, false, true, false, false] (.act [false, false, false, false, false, false, false, false, false, true, false, false, false, false, false, false] (.still [false, false, false, false, false, false, false, false, false, false, true, true, true, false, false, false] (.act [false, false, false, false, false, false, false, false, false, false, false, false, false, false, true, false] (.still [false, false, false, false, false, false, false, false, false, false, false, false, false, false, false, true] .stop)))))))) (by kernel_rfl) (by kernel_rfl) (fun _ _ d _ _ h => by cases d <;> exact h) ?_
          generalize w5.drew = V at *
          refine sv_still fun K0 hK0 => ?_
          simp only [pickM]
          go_wp2_with fail
          refine hK0.out _ ?_
          clear hK0 K0
          refine sv_look fun K0 hK0 => ?_
          simp only [pickM]
          go_wp2_with fail
          refine hK0.out _ ?_
          clear hK0 K0
          refine sv_fork (fun K2 hK2 => ?_) ?_
          · simp only [pickM]
            go_wp2_with fail
            refine (HC.out _ M.out.b).mono ?_
            rintro e x1 ⟨rfl, hBelow⟩
            have M := Lib.hid (M.out.step hBelow)
            go_wp2_with fail
            have hsx1 := Lib.hid (show Sof (some V) x1 from hBelow)
            refine hK2.out _ _ hsx1.out ?_
            clear hK2 K2 hBelow
            refine sv_still fun K0 hK0 => ?_
            simp only [pickM]
            go_wp2_with fail
            refine hK0.out _ ?_
            clear hK0 K0
            refine sv_act fun K2 hK2 => ?_
            simp only [pickM]
            go_wp2_with fail
            obtain ⟨x2, hx⟩ : ∃ X, X = World.alloc x1 (.cells (u8s (zer 32)) 24) := ⟨_, rfl⟩
            rw [← hx]
            have hBelow : Below x1.heap.size x1 x2 := by rw [hx]; exact (Below.refl _ _).alloc (Nat.le_refl _) _
            have E := Lib.hid (show Blk x2 x1.heap.size 24 (u8s (zer 32)) by rw [hx]; exact Blk.new x1 24 _)
            have hE1 : w.heap.size + 1 + 1 < x1.heap.size := M.out.r.lt
            have hE2 : gl < x1.heap.size := M.out.l.lt
            have hE3 : V.heap.size ≤ x1.heap.size := (show Below _ _ _ from hsx1.out).size
            have M := Lib.hid (M.out.step hBelow)
            clear hx
            go_wp2_with fail
            have hsx2 := Lib.hid (Sof.step hsx1.out hBelow)
            refine hK2.out _ _ hsx2.out ?_
            clear hK2 K2 hBelow
            refine sv_act fun K2 hK2 => ?_
            simp only [pickM]
            have s1 := store24_run E.out rfl hxo.1
            go_wp2_with fail
            obtain ⟨x3, hx⟩ : ∃ X, X = World.setRow x2 x1.heap.size (u8s x) := ⟨_, rfl⟩
            rw [← hx]
            have hSof : Below V.heap.size V x3 := by rw [hx]; exact below_setRow' (show Below _ _ _ from hsx2.out) hE3 _
            have E2 := Lib.hid (show Blk x3 x1.heap.size 24 (u8s x) by rw [hx]; exact E.out.setRow _)
            have M := Lib.hid (show Rp2 w x3 w.heap.size gl h last by rw [hx]; exact M.out.row hE1 hE2 _)
            clear hx s1 E
            have E := E2
            clear E2
            go_wp2_with fail
            have hsx3 := Lib.hid (show Sof (some V) x3 from hSof)
            refine hK2.out _ _ hsx3.out ?_
            clear hK2 K2 hSof
            refine sv_still fun K0 hK0 => ?_
            simp only [pickM]
            go_wp2_with fail
            refine hK0.out _ ?_
            clear hK0 K0
            change Exit.then _ _ _ _ _
            clear lt lh
            have lt := load32_run M.out.t
            have lx := load24M E.out hxo.1
            have ll := load24M M.out.l hlast.1
            go_wp2_with fail
            refine (rnode_any _ x last hxo.1 hlast.1 hxo.2 hlast.2).mono ?_
            rintro e w9 ⟨rfl, B9⟩
            have M := Lib.hid (M.out.step B9)
            clear B9 E
            have s9 := store24_run M.out.r rfl (nodeL_length x last)
            go_wp2_with fail
            exact rp_ret (p := 10) (u := 11) rfl (nodeL_length _ _) rfl rfl rfl M.out.r (by omega) M.out.b
          · refine sv_act fun K2 hK2 => ?_
            simp only [pickM]
            go_wp2_with fail
            obtain ⟨x4, hx⟩ : ∃ X, X = World.alloc V (.cells (u8s (zer 32)) 24) := ⟨_, rfl⟩
            rw [← hx]
            have hBelow : Below V.heap.size V x4 := by rw [hx]; exact (Below.refl _ _).alloc (Nat.le_refl _) _
            have E := Lib.hid (show Blk x4 V.heap.size 24 (u8s (zer 32)) by rw [hx]; exact Blk.new V 24 _)
            have hE1 : w.heap.size + 1 + 1 < V.heap.size := M.out.r.lt
            have hE2 : gl < V.heap.size := M.out.l.lt
            have hE3 : V.heap.size ≤ V.heap.size := Nat.le_refl _
            have M := Lib.hid (M.out.step hBelow)
            clear hx
            go_wp2_with fail
            have hsx4 := Lib.hid (show Sof (some V) x4 from hBelow)
            refine hK2.out _ _ hsx4.out ?_
            clear hK2 K2 hBelow
            refine sv_act fun K2 hK2 => ?_
            simp only [pickM]
            go_wp2_with fail
            refine (HC.out _ M.out.b).mono ?_
            rintro e x5 ⟨rfl, hBelow⟩
            have M := Lib.hid (M.out.step hBelow)
            have E := Lib.hid (E.out.below hBelow E.out.lt)
            go_wp2_with fail
            have hsx5 := Lib.hid (Sof.step hsx4.out hBelow)
            refine hK2.out _ _ hsx5.out ?_
            clear hK2 K2 hBelow
            refine sv_still fun K0 hK0 => ?_
            simp only [pickM]
            go_wp2_with fail
            refine hK0.out _ ?_
            clear hK0 K0
            refine sv_act fun K2 hK2 => ?_
            simp only [pickM]
            have s1 := store24_run E.out rfl hxo.1
            go_wp2_with fail
            obtain ⟨x6, hx⟩ : ∃ X, X = World.setRow x5 V.heap.size (u8s x) := ⟨_, rfl⟩
            rw [← hx]
            have hSof : Below V.heap.size V x6 := by rw [hx]; exact below_setRow' (show Below _ _ _ from hsx5.out) hE3 _
            have E2 := Lib.hid (show Blk x6 V.heap.size 24 (u8s x) by rw [hx]; exact E.out.setRow _)
            have M := Lib.hid (show Rp2 w x6 w.heap.size gl h last by rw [hx]; exact M.out.row hE1 hE2 _)
            clear hx s1 E
            have E := E2
            clear E2
            go_wp2_with fail
            have hsx6 := Lib.hid (show Sof (some V) x6 from hSof)
            refine hK2.out _ _ hsx6.out ?_
            clear hK2 K2 hSof
            refine sv_still fun K0 hK0 => ?_
            simp only [pickM]
            go_wp2_with fail
            refine hK0.out _ ?_
            clear hK0 K0
            change Exit.then _ _ _ _ _
            clear lt lh
            have lt := load32_run M.out.t
            have lx := load24M E.out hxo.1
            have ll := load24M M.out.l hlast.1
            go_wp2_with fail
            refine (rnode_any _ x last hxo.1 hlast.1 hxo.2 hlast.2).mono ?_
            rintro e w9 ⟨rfl, B9⟩
            have M := Lib.hid (M.out.step B9)
            clear B9 E
            have s9 := store24_run M.out.r rfl (nodeL_length x last)
            go_wp2_with fail
            exact rp_ret (p := 10) (u := 11) rfl (nodeL_length _ _) rfl rfl rfl M.out.r (by omega) M.out.b
        · have hhi : splitL n ≤ i := by omega
          have hpl := pathL_hi n i h ps h2 (by omega) hhi
          rw [hk, show q + 1 - 1 = q by omega] at hpl
          have hc := fun W (s : Below w.heap.size w W) => IH.out (n - splitL n) (by omega) (i - splitL n) h (ps.take q) W (some ⟨pg, po, none⟩) q pc (by omega) (by omega) (by omega) hh hB hql (by omega) (by omega) hpc (digs_take hd q) (lv_htake (hP.below s) hd q)
          rw [show ((n - splitL n : Nat) : Int) = (n : Int) - (splitL n : Nat) by omega, show ((i - splitL n : Nat) : Int) = (i : Int) - (splitL n : Nat) by omega] at hc
          have HC := Lib.hid hc
          clear hc
          have hxo := pathL_ok (n - splitL n) (i - splitL n) h (ps.take q) (by omega) (by omega) hh hB (digs_take hd q)
          rw [hpl]
          rw [hpl] at hok
          clear hpl hP hd hk hB hne IH
          generalize ps.getD q [] = last at *
          generalize (pathL (n - splitL n) (i - splitL n) h (ps.take q)) = r at *
          generalize splitL n = m at *
          obtain ⟨x, b⟩ := r
          simp only at hok hxo HC ⊢
          obtain ⟨W, hW⟩ : ∃ W, W = ((w.alloc (.cells (u32s TT) 32)).alloc (.cells (u8s h) 24)).alloc (.cells (u8s (zer 32)) 24) := ⟨_, rfl⟩
          have HE := Lib.hid (show RpSt w W w.heap.size h by rw [hW]; exact rp_start w h)
          have l0 := HLd.out W HE.out.b
          go_enter Tryd.func55, Tryd.ntmps55
          go_wp2_with fail
          rw [← hW]
          clear hW
          refine (HK.out _).mono ?_
          rintro e w1 ⟨rfl, rfl⟩
          go_wp2_with (refine wpList_fillM rfl 24 (.tmp 13) (.tmp 35) rfl (u8s last) rfl rfl (size24 _ hlast.1) (by rw [u8s_size, u8s_size, hlast.1]; rfl) (u8s_one _) ?_; intro w5 E5 B5; have H5 := Lib.hid (And.intro E5 (HE.out.step B5)); clear E5 B5)

          have hgl := HE.out.r.lt
          generalize W.heap.size = gl at *
          have M := Lib.hid (show Rp2 w w5.drew w.heap.size gl h last from ⟨H5.out.2.t, H5.out.2.h, H5.out.2.r, H5.out.1, H5.out.2.b.drew⟩)
          have lt := load32_run M.out.t
          have lh := load24M M.out.h hh
          clear H5 HE l0
          refine wp_region_pv (.still [false, true, true, false, true, true, false, false, true, true, false, false, false, false, false, false, false, false, false, false] (.look [true, false, false, true, false, false, true, true, false, false, true, true, true, false, false, false, false, false, false, false] (.fork [false, false, false, false, false, false, false, false, false, false, false, false, false, true, false, false, false, false, false, false] (.still [false, false, false, false, false, false, false, false, false, false, false, false, false, false, true, true, true, false, false, false] (.act [false, false, false, false, false, false, false, false, false, false, false, false, false, false, false, false, false, true, false, false] (.act [false, false, false, false, false, false, false, false, false, false, false, false, false, false, false, false, false, false, true, false] (.still [false, false, false, false, false, false, false, false, false, false, false, false, false, false, false, false, false, false, false, true] .stop)))) (.act [false, false, false, false, false, false, false, false, false, false, false, false, false, false, false, false, false, true, false, false] (.act [false, false, false, false, false, false, false, false, false, false, false, false, false, true, false, false, false, false, false, false] (.still [false, false, false, false, false, false, false, false, false, false, false, false, false, false, true, true, true, false, false, false] (.act [false, false, false, false, false, false, false, false, false, false, false, false, false, false, false, false, false, false, true, false] (.still [false, false, false, false, false, false, false, false, false, false, false, false, false, false, false, false, false, false, false, true] .stop)))))))) (by kernel_rfl) (by kernel_rfl) (fun _ _ d _ _ h => by cases d <;> exact h) ?_
          generalize w5.drew = V at *
          refine sv_still fun K0 hK0 => ?_
          simp only [pickM]
          go_wp2_with fail
          refine hK0.out _ ?_
          clear hK0 K0
          refine sv_look fun K0 hK0 => ?_
          simp only [pickM]
          go_wp2_with fail
          refine hK0.out _ ?_
          clear hK0 K0
          refine sv_fork (fun K2 hK2 => ?_) ?_
          · simp only [pickM]
            go_wp2_with fail
            refine (HC.out _ M.out.b).mono ?_
            rintro e x7 ⟨rfl, hBelow⟩
            have M := Lib.hid (M.out.step hBelow)
            go_wp2_with fail
            have hsx7 := Lib.hid (show Sof (some V) x7 from hBelow)
            refine hK2.out _ _ hsx7.out ?_
            clear hK2 K2 hBelow
            refine sv_still fun K0 hK0 => ?_
            simp only [pickM]
            go_wp2_with fail
            refine hK0.out _ ?_
            clear hK0 K0
            refine sv_act fun K2 hK2 => ?_
            simp only [pickM]
            go_wp2_with fail
            obtain ⟨x8, hx⟩ : ∃ X, X = World.alloc x7 (.cells (u8s (zer 32)) 24) := ⟨_, rfl⟩
            rw [← hx]
            have hBelow : Below x7.heap.size x7 x8 := by rw [hx]; exact (Below.refl _ _).alloc (Nat.le_refl _) _
            have E := Lib.hid (show Blk x8 x7.heap.size 24 (u8s (zer 32)) by rw [hx]; exact Blk.new x7 24 _)
            have hE1 : w.heap.size + 1 + 1 < x7.heap.size := M.out.r.lt
            have hE2 : gl < x7.heap.size := M.out.l.lt
            have hE3 : V.heap.size ≤ x7.heap.size := (show Below _ _ _ from hsx7.out).size
            have M := Lib.hid (M.out.step hBelow)
            clear hx
            go_wp2_with fail
            have hsx8 := Lib.hid (Sof.step hsx7.out hBelow)
            refine hK2.out _ _ hsx8.out ?_
            clear hK2 K2 hBelow
            refine sv_act fun K2 hK2 => ?_
            simp only [pickM]
            have s1 := store24_run E.out rfl hxo.1
            go_wp2_with fail
            obtain ⟨x9, hx⟩ : ∃ X, X = World.setRow x8 x7.heap.size (u8s x) := ⟨_, rfl⟩
            rw [← hx]
            have hSof : Below V.heap.size V x9 := by rw [hx]; exact below_setRow' (show Below _ _ _ from hsx8.out) hE3 _
            have E2 := Lib.hid (show Blk x9 x7.heap.size 24 (u8s x) by rw [hx]; exact E.out.setRow _)
            have M := Lib.hid (show Rp2 w x9 w.heap.size gl h last by rw [hx]; exact M.out.row hE1 hE2 _)
            clear hx s1 E
            have E := E2
            clear E2
            go_wp2_with fail
            have hsx9 := Lib.hid (show Sof (some V) x9 from hSof)
            refine hK2.out _ _ hsx9.out ?_
            clear hK2 K2 hSof
            refine sv_still fun K0 hK0 => ?_
            simp only [pickM]
            go_wp2_with fail
            refine hK0.out _ ?_
            clear hK0 K0
            change Exit.then _ _ _ _ _
            clear lt lh
            have lt := load32_run M.out.t
            have lx := load24M E.out hxo.1
            have ll := load24M M.out.l hlast.1
            go_wp2_with fail
            refine (rnode_any _ last x hlast.1 hxo.1 hlast.2 hxo.2).mono ?_
            rintro e w9 ⟨rfl, B9⟩
            have M := Lib.hid (M.out.step B9)
            clear B9 E
            have s9 := store24_run M.out.r rfl (nodeL_length last x)
            go_wp2_with fail
            exact rp_ret (p := 10) (u := 11) rfl (nodeL_length _ _) rfl rfl rfl M.out.r (by omega) M.out.b
          · refine sv_act fun K2 hK2 => ?_
            simp only [pickM]
            go_wp2_with fail
            obtain ⟨x10, hx⟩ : ∃ X, X = World.alloc V (.cells (u8s (zer 32)) 24) := ⟨_, rfl⟩
            rw [← hx]
            have hBelow : Below V.heap.size V x10 := by rw [hx]; exact (Below.refl _ _).alloc (Nat.le_refl _) _
            have E := Lib.hid (show Blk x10 V.heap.size 24 (u8s (zer 32)) by rw [hx]; exact Blk.new V 24 _)
            have hE1 : w.heap.size + 1 + 1 < V.heap.size := M.out.r.lt
            have hE2 : gl < V.heap.size := M.out.l.lt
            have hE3 : V.heap.size ≤ V.heap.size := Nat.le_refl _
            have M := Lib.hid (M.out.step hBelow)
            clear hx
            go_wp2_with fail
            have hsx10 := Lib.hid (show Sof (some V) x10 from hBelow)
            refine hK2.out _ _ hsx10.out ?_
            clear hK2 K2 hBelow
            refine sv_act fun K2 hK2 => ?_
            simp only [pickM]
            go_wp2_with fail
            refine (HC.out _ M.out.b).mono ?_
            rintro e x11 ⟨rfl, hBelow⟩
            have M := Lib.hid (M.out.step hBelow)
            have E := Lib.hid (E.out.below hBelow E.out.lt)
            go_wp2_with fail
            have hsx11 := Lib.hid (Sof.step hsx10.out hBelow)
            refine hK2.out _ _ hsx11.out ?_
            clear hK2 K2 hBelow
            refine sv_still fun K0 hK0 => ?_
            simp only [pickM]
            go_wp2_with fail
            refine hK0.out _ ?_
            clear hK0 K0
            refine sv_act fun K2 hK2 => ?_
            simp only [pickM]
            have s1 := store24_run E.out rfl hxo.1
            go_wp2_with fail
            obtain ⟨x12, hx⟩ : ∃ X, X = World.setRow x11 V.heap.size (u8s x) := ⟨_, rfl⟩
            rw [← hx]
            have hSof : Below V.heap.size V x12 := by rw [hx]; exact below_setRow' (show Below _ _ _ from hsx11.out) hE3 _
            have E2 := Lib.hid (show Blk x12 V.heap.size 24 (u8s x) by rw [hx]; exact E.out.setRow _)
            have M := Lib.hid (show Rp2 w x12 w.heap.size gl h last by rw [hx]; exact M.out.row hE1 hE2 _)
            clear hx s1 E
            have E := E2
            clear E2
            go_wp2_with fail
            have hsx12 := Lib.hid (show Sof (some V) x12 from hSof)
            refine hK2.out _ _ hsx12.out ?_
            clear hK2 K2 hSof
            refine sv_still fun K0 hK0 => ?_
            simp only [pickM]
            go_wp2_with fail
            refine hK0.out _ ?_
            clear hK0 K0
            change Exit.then _ _ _ _ _
            clear lt lh
            have lt := load32_run M.out.t
            have lx := load24M E.out hxo.1
            have ll := load24M M.out.l hlast.1
            go_wp2_with fail
            refine (rnode_any _ last x hlast.1 hxo.1 hlast.2 hxo.2).mono ?_
            rintro e w9 ⟨rfl, B9⟩
            have M := Lib.hid (M.out.step B9)
            clear B9 E
            have s9 := store24_run M.out.r rfl (nodeL_length last x)
            go_wp2_with fail
            exact rp_ret (p := 10) (u := 11) rfl (nodeL_length _ _) rfl rfl rfl M.out.r (by omega) M.out.b
end Go.Proofs.YtediocpdpghbfaaDoor
