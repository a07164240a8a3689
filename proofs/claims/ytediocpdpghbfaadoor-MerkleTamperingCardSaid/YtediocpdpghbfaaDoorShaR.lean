/- What every law's card shares: the tables out of the row's list, a world for the witness, an argument that is a slice of bytes. The law of Sum: the walk. The law of Sum's lengths: the walk. The law of Clone: the walk. The law of Hash: the walk. An argument that is a slice of slices of bytes. An argument that is an array of words or of bytes. The reference's Text and Parse The reference's Parse -/
import Derived.Test.YtediocpdpghbfaaDoorShaQ
import Derived.Test.YtediocpdpghbfaaDoorCards
import Derived.Test.YtediocpdpghbfaaDoorTie
import Derived.WalkKit
import Derived.ProofKit
import Derived.OpenShut
import Derived.Carry
import Derived.LaidSub
import Derived.Deep.DeepHandedRow
import Derived.Lib.LaidTab
import Derived.Test.YtediocpdpghbfaaDoorRegP
import Derived.Deep.Matrix
set_option linter.unusedSimpArgs false
set_option linter.unusedVariables false
namespace Go.Proofs.YtediocpdpghbfaaDoor
open Go Go.ChangeShapes Go.WideShapes Go.ChangeAt Go.RowKit

theorem own : ownKnob Tryd.prog.godebug = none := by kernel_rfl
theorem laidOut : laidOutB Tryd.prog = true := by kernel_rfl
theorem gK : Tryd.prog.globalNamed "giro/sha256.constants" = some 0 := by kernel_rfl
theorem gH : Tryd.prog.globalNamed "giro/sha256.initial" = some 1 := by kernel_rfl
theorem gKt : (Tryd.prog.globals[0]?).map (·.type) = some 29 := by kernel_rfl
theorem gHt : (Tryd.prog.globals[1]?).map (·.type) = some 30 := by kernel_rfl
theorem cells28 : Tryd.prog.cellsOf 28 = 1 := by kernel_rfl
theorem cells29 : Tryd.prog.cellsOf 29 = 64 := by kernel_rfl
theorem cells30 : Tryd.prog.cellsOf 30 = 8 := by kernel_rfl
theorem cells5 : Tryd.prog.cellsOf 5 = 1 := by kernel_rfl
theorem heap_of_var {W : World} {n : String} {g : Nat} {cs : Array Value} (hg : Tryd.prog.globalNamed n = some g) (h : W.var? Tryd.prog n = some cs) : ∃ t fr, W.heap[g]? = some (.cells cs t fr) := by
  simp only [World.var?, hg, Option.bind_some] at h
  split at h
  · rename_i cs' t fr he
    injection h with h
    subst h
    exact ⟨t, fr, he⟩
  · cases h
abbrev laidBoth : List (String × DataW Unit) := [("giro/sha256.constants", Rows.laid_giro_sha256_constants), ("giro/sha256.initial", Rows.laid_giro_sha256_initial)]
theorem tabs_of {W : World} (h : laidMetH Tryd.prog laidBoth W) : Tabs W := by
  have h1 : laidMet Tryd.prog laidBoth W := h
  have h2 : laidMet Tryd.prog [("giro/sha256.initial", Rows.laid_giro_sha256_initial)] W := by
    have := h1.filter (fun x => x.1 == "giro/sha256.initial")
    exact this
  have t1 : Lib.TabIs Tryd.prog W "giro/sha256.constants" .u32 (KK.map fun x : Nat => (x : Int)) :=
    Lib.tabIs_of_head (rest := [("giro/sha256.initial", Rows.laid_giro_sha256_initial)]) gK gKt Tryd.underlying29 Tryd.underlying28 cells28 cells29 h1
  have t2 : Lib.TabIs Tryd.prog W "giro/sha256.initial" .u32 (HH.map fun x : Nat => (x : Int)) :=
    Lib.tabIs_of_head (rest := []) gH gHt Tryd.underlying30 Tryd.underlying28 cells28 cells30 h2
  obtain ⟨ty1, fr1, e1⟩ := heap_of_var gK t1
  obtain ⟨ty2, fr2, e2⟩ := heap_of_var gH t2
  refine ⟨(Array.getElem?_eq_some_iff.1 e2).1, ⟨ty1, fr1, ?_⟩, ⟨ty2, fr2, ?_⟩⟩
  · rw [e1, List.map_map]; rfl
  · rw [e2, List.map_map]; rfl

/-- a world for the witness -/
def putCells (cs : Array Value) : Obj → Obj
  | .cells _ t frozen => .cells cs t frozen
  | o => o
noncomputable def laidWorld (os : Os) : World :=
  { World.holding Tryd.prog os ⟨#[], #[], []⟩ with heap := ((World.holding Tryd.prog os ⟨#[], #[], []⟩).heap.modify 0 (putCells (u32s KK))).modify 1 (putCells (u32s HH)) }

set_option maxRecDepth 100000 in
/-- an argument that is a slice of bytes -/
theorem slice_arg {H : Type} {enc : TypeId × Value → H} {W : World} {base : Nat} {v : Value} {d : DataW H} {p : List MemPlace}
    (hv : Value.okWide Tryd.prog W .any base 22 v) (h : DataW.Trod enc Tryd.prog W 0 (fun _ => true) true 22 v d p) (hlt : ∀ x ∈ p, x.block < W.heap.size) :
    ∃ (A : Option Addr) (cap : Nat) (b : List Nat), v = .slice A b.length cap ∧ b.length ≤ cap ∧ cap ≤ maxLen ∧ Bytes b ∧ RW W A cap b := by
  obtain ⟨a0, len, cap, hv0⟩ := okWide_slice Tryd.underlying22 hv
  subst hv0
  clear hv
  obtain ⟨fuel, hf⟩ := h
  rcases open_ints Tryd.underlying22 Tryd.underlying5 cells5 hf with ⟨hcs, hx⟩ | ⟨a, len', cap', zs, hcs, _, hl, hm, hz, hx, hcell, hwz⟩
  · simp [Value.cells] at hcs
    obtain ⟨rfl, rfl, rfl⟩ := hcs
    exact ⟨none, 0, [], rfl, Nat.le_refl _, Nat.zero_le _, Bytes.nil, ⟨fun _ => ⟨rfl, rfl⟩, fun _ h => by cases h⟩⟩
  · simp [Value.cells] at hcs
    obtain ⟨rfl, rfl, rfl⟩ := hcs
    simp only [Prod.mk.injEq] at hx
    obtain ⟨rfl, rfl⟩ := hx
    simp only [if_true] at hz
    have hb : ∀ z ∈ zs, 0 ≤ z ∧ z ≤ 255 := fun z hz => by simpa [Lit.wf, IntKind.min, IntKind.max, IntKind.signed, IntKind.bits] using hwz z hz
    have hl' : ((zs.take len).map Int.toNat).length = len := by simp; omega
    refine ⟨some a, cap, (zs.take len).map Int.toNat, by rw [hl'], by rw [hl']; exact hl, hm, ?_, ⟨(fun e => by cases e), fun ad had hne => ?_⟩⟩
    · refine Bytes.of_mem fun x hx => ?_
      obtain ⟨z, hz', rfl⟩ := List.mem_map.1 hx
      have := hb z (List.mem_of_mem_take hz')
      omega
    · injection had with had
      subst had
      have hpos : 0 < len := by
        rw [← hl']; exact List.length_pos_iff.2 hne
      have hspot : a.spot = none := by
        have h0 := hcell 0 (by omega)
        obtain ⟨b, off, spot⟩ := a
        simpa [Addr.add] using World.cell?_spot h0
      obtain ⟨b, off, spot⟩ := a
      simp only at hspot
      subst hspot
      refine ⟨rfl, hlt (.cell b off) (MemPlace.mem_row.2 ⟨0, by omega, by simp⟩), fun j hj => ?_⟩
      rw [hl'] at hj
      have h0 := hcell j (by omega)
      rw [addr_add] at h0
      rw [h0]
      have hj2 : j < zs.length := by omega
      have hz0 := hb zs[j] (List.getElem_mem hj2)
      simp [List.getD_eq_getElem?_getD, List.getElem?_eq_getElem hj2, List.getElem?_take, hj]
      omega
end Go.Proofs.YtediocpdpghbfaaDoor
namespace Go.Proofs.YtediocpdpghbfaaDoor
open Go Go.RowKit

attribute [local go_sem ↓] st25 ld25
theorem load25_run {w : World} {S t : Nat} {st : List Nat} (h : Blk w S t (u8s st)) (hl : st.length = 32) :
    (loadAgg 25 (.pointer (some ⟨S, 0, none⟩))).run Tryd.prog w = .ok (.agg (u8s st)) w := by
  have := loadAgg_run (P := Tryd.prog) (w := w) (ty := 25) (g := S) (off := 0) (u8s st).toList Tryd.underlying25 rfl (by rw [Array.length_toList]; exact size25 st hl) (fun j v hv => by
    rw [Nat.zero_add, h.cell]; simpa using hv)
  simpa using this
theorem RW.drew {w : World} {A : Option Addr} {c : Nat} {b : List Nat} (h : RW w A c b) : RW w.drew A c b := ⟨h.1, fun ad hA hn => ⟨(h.2 ad hA hn).1, (h.2 ad hA hn).2.1, (h.2 ad hA hn).2.2⟩⟩
set_option maxRecDepth 100000 in
set_option maxHeartbeats 4000000 in
theorem law_sum (w : World) (hT : Tabs w) (b : List Nat) (A : Option Addr) (cap : Nat) (hcap : b.length ≤ cap) (hB : Bytes b) (hr : RW w A cap b) :
    Calls Tryd.prog 3 #[.slice A b.length cap] w fun e w' => e = .returned (.bool true) ∧ Below w.heap.size w w' := by
  obtain ⟨n, hn⟩ : ∃ n, b.length = n := ⟨_, rfl⟩
  rw [hn] at hcap ⊢
  have HA := Lib.hid (And.intro hT (And.intro hB (And.intro hr hn))); clear hT hB hr hn
  by_cases hbig : 1000 < n
  · go_enter Tryd.func3, Tryd.ntmps3
    go_wp2_with fail
    refine (known_any w HA.out.1).mono ?_
    rintro e w1 ⟨rfl, B1⟩
    have H1 := Lib.hid B1; clear B1
    go_wp2_with fail
    go_ret
    exact ⟨rfl, H1.out⟩
  · have kc := fun W (h : RW W A cap b) => convert_rw W A cap b n HA.out.2.2.2 HA.out.2.1 h
    have kc0 := kc w HA.out.2.2.1
    have HC := Lib.hid kc; clear kc
    go_enter Tryd.func3, Tryd.ntmps3
    go_wp2_with fail
    have hs := sum_any w HA.out.1 b A cap (by rw [HA.out.2.2.2]; exact hcap) HA.out.2.1 (HA.out.2.2.1.rb (Nat.le_refl _)) (by rw [HA.out.2.2.2]; omega)
    rw [HA.out.2.2.2] at hs
    refine hs.mono ?_
    rintro e w1 ⟨rfl, B1⟩
    have hsl := sha_length b
    have hT1 := HA.out.1.below B1 HA.out.1.two
    have H1 := Lib.hid (And.intro B1 hT1); clear B1 hs hT1
    have HD := Lib.hid (rsum_any · b A cap (by rw [HA.out.2.2.2]; exact hcap) HA.out.2.1 · (by rw [HA.out.2.2.2]; omega))
    rw [HA.out.2.2.2] at HD
    generalize sha b = d at *
    go_wp2_with (first
      | (refine wpList_store_row rfl 25 (.tmp 4) (.tmp 12) rfl w1.heap.size (u8s d) rfl rfl 25 (u8s (List.replicate 32 0)) (Blk.new _ _ _) (size25 _ hsl) (by rw [u8s_size, u8s_size, hsl]; rfl) (u8s_one _) ?_))
    obtain ⟨W5, hW5⟩ : ∃ W5, W5 = (w1.alloc (.cells (u8s (List.replicate 32 0)) 25)).setRow w1.heap.size (u8s d) := ⟨_, rfl⟩
    change Code.wp _ _ _ _ ((w1.alloc (.cells (u8s (List.replicate 32 0)) 25)).setRow w1.heap.size (u8s d))
    rw [← hW5]
    have F1 : Blk W5 w1.heap.size 25 (u8s d) := by rw [hW5]; exact (Blk.new _ _ _).setRow _
    have F2 : Below w.heap.size w W5 := by rw [hW5]; exact below_setRow' (H1.out.1.alloc H1.out.1.size _) H1.out.1.size _
    have F3 := HA.out.1.below F2 HA.out.1.two
    have F4 := HA.out.2.2.1.below F2
    generalize w1.heap.size = g at *
    clear hW5
    have f1 := load25_run F1 hsl
    have f1' := load25_run F1.drew hsl
    have kc5 := HC.out _ F4
    have HE := Lib.hid (And.intro F1 (And.intro F2 (And.intro F3 F4))); clear F1 F2 F3 F4
    have hbeq : ((strOf b).toList == (strOf b).toList) = true := by simp
    have hdeq : decide (d = d) = true := by simp
    have eqd := fun W => run_equalIn_dig W d d hsl hsl
    clear H1
    go_region_with (first
      | (go_at_call 22; go_loud ( refine (make_any _).mono ?_; rintro e w6 ⟨rfl, B6⟩; have f6 := load25_run (HE.out.1.drew.below B6 HE.out.1.drew.lt) hsl; have kc6 := HC.out _ (HE.out.2.2.2.drew.below B6); have H6 := Lib.hid B6; clear B6))
      | (go_at_call 21; refine (HD.out _ (HE.out.2.2.2.drew.below H6.out)).mono ?_; rintro e w7 ⟨rfl, B7⟩; have f7 := load25_run ((HE.out.1.drew.below H6.out HE.out.1.drew.lt).below B7 (by have := H6.out.size; have := HE.out.1.lt; simp at *; omega)) hsl; have kc7 := HC.out _ ((HE.out.2.2.2.drew.below H6.out).below B7); have H7 := Lib.hid B7; clear B7)
      | (go_at_call 19; refine (known_any _ ((HE.out.2.2.1.drew.below H6.out HE.out.2.2.1.two).below H7.out (Nat.le_trans HE.out.2.2.1.two H6.out.size))).mono ?_; rintro e w8 ⟨rfl, B8⟩; have H8 := Lib.hid B8; clear B8))
    go_wp2_with fail
    all_goals
      have l5 := HE.out.2.1.size
      have l6 := H6.out.size
      have l7 := H7.out.size
      refine bodyPost_ret (v := .bool true) ?_ rfl ⟨rfl, (HE.out.2.1.drew.trans (H6.out.mono l5)).trans ((H7.out.mono (Nat.le_trans l5 l6)).trans (H8.out.mono (Nat.le_trans l5 (Nat.le_trans l6 l7))))⟩
      kernel_rfl
end Go.Proofs.YtediocpdpghbfaaDoor
namespace Go.Proofs.YtediocpdpghbfaaDoor
open Go Go.RowKit

/-- the bytes a, a + 1, .. while they are being written -/
def fillP (a n t : Nat) : List Nat := (List.range t).map (fun i => (a + i) % 256) ++ List.replicate (n - t) 0
theorem fillP_length (a n t : Nat) (h : t ≤ n) : (fillP a n t).length = n := by simp [fillP]; omega
theorem fillP_set (a n t : Nat) (h : t < n) : (fillP a n t).set t ((a + t) % 256) = fillP a n (t + 1) := by
  obtain ⟨j, hj⟩ : ∃ j, n - t = j + 1 := ⟨n - t - 1, by omega⟩
  rw [fillP, fillP, hj, show n - (t + 1) = j by omega, List.set_append_right _ _ (by simp), List.replicate_succ, List.range_succ, List.map_append]
  simp
theorem fillP_zero (a n : Nat) : fillP a n 0 = List.replicate n 0 := by simp [fillP]
theorem fillP_bytes (a n t : Nat) : Bytes (fillP a n t) := Bytes.of_mem fun x hx => by
  simp only [fillP, List.mem_append, List.mem_map, List.mem_replicate] at hx
  rcases hx with ⟨i, _, rfl⟩ | ⟨_, rfl⟩ <;> omega
theorem Blk.rb {w : World} {g' : Nat} {l : List Nat} {t : TypeId} (h : Blk w g' t (u8s l)) {g : Nat} (hg : w.heap.size ≤ g) : RB w g (some ⟨g', 0, none⟩) l :=
  fun _ => ⟨g', 0, rfl, by have := h.lt; omega, h.lt, fun j hj => by rw [Nat.zero_add]; exact h.u8 hj⟩
theorem Blk.rw {w : World} {g' c : Nat} {l : List Nat} {t : TypeId} (h : Blk w g' t (u8s l)) : RW w (some ⟨g', 0, none⟩) c l :=
  ⟨(fun e => by cases e), (fun ad e _ => by injection e with e; subst e; exact ⟨rfl, h.lt, fun j hj => by rw [Nat.zero_add]; exact h.u8 hj⟩)⟩
attribute [local go_sem ↓] st25 ld25
set_option maxRecDepth 100000 in
set_option maxHeartbeats 4000000 in
theorem law_len (w : World) (hT : Tabs w) (a n : Nat) (ha : a < 256) (hn : n < 65536) :
    Calls Tryd.prog 4 #[.int .u8 a, .int .u16 n] w fun e w' => e = .returned (.bool true) ∧ Below w.heap.size w w' := by
  obtain ⟨i0, hi0, hz0, hz1, hz2⟩ := info_parts info5
  have hmk : ∀ (w : World) (m : Nat), m < 401 → (Instr.makeSlice 22 (.int .i64 m) (.int .i64 m)).run Tryd.prog w = .ok (.slice (some ⟨w.heap.size, 0, none⟩) m m) (w.alloc (.cells (u8s (fillP a m 0)) 5)) := fun w m hm => by
    have := run_make_rowN (P := Tryd.prog) 22 5 i0 _ Tryd.underlying22 hi0 hz0 .i64 .i64 m m (by omega) (by rw [hz2]; omega) (by omega) w
    rwa [hz1, Nat.mul_one, madeCells_u8, ← fillP_zero a m] at this
  obtain ⟨m, hm⟩ : ∃ m, n % 401 = m := ⟨_, rfl⟩
  have hm4 : m < 401 := by omega
  have hmI : (n : Int) % 401 = (m : Int) := by omega
  have hmk' := hmk w m hm4
  have HA := Lib.hid hT; clear hT hmk hm hi0 hz0 hz1 hz2
  go_enter Tryd.func4, Tryd.ntmps4
  go_wp2_with fail
  have hb0 := (Below.refl w.heap.size w).alloc (Nat.le_refl _) (.cells (u8s (fillP a m 0)) 5)
  have hk0 := Blk.new w 5 (u8s (fillP a m 0))
  generalize hg : w.heap.size = g at *
  have HG := Lib.hid (And.intro hg (And.intro hb0 hk0)); clear hg hb0 hk0
  go_loopg [6] m (fun f iv wr => ∃ i : Nat, i + f = m ∧ iv = .int .i64 i ∧ Blk wr g 5 (u8s (fillP a m i)) ∧ Below g w wr)
  case atStart => exact ⟨0, by omega, rfl, HG.out.2.2, HG.out.2.1⟩
  case round =>
    obtain ⟨i, hif, rfl, E1, B0⟩ := hrel
    by_cases hi : i < m
    · have c := E1.u8 (i := i) (by rw [fillP_length _ _ _ (by omega)]; exact hi)
      have f := E1.frozen i
      have hset := fillP_set a m i hi
      generalize (fillP a m i).getD i 0 = y at *
      have HE := Lib.hid (And.intro E1 (And.intro B0 (And.intro hset hif))); clear E1 B0 hset hif
      go_wp2_with fail
      go_roundg (gk - 1)
      case measure => have := HE.out.2.2.2; omega
      case rel =>
        obtain ⟨E1, B0, hset, hif⟩ := HE.out
        refine ⟨i + 1, by omega, by go_num, ?_, B0.setCell (by simp) _⟩
        exact E1.set8 _ _ hset
    · obtain rfl : i = m := by omega
      have hbl := fillP_length a i i (Nat.le_refl _)
      have hbb := fillP_bytes a i i
      generalize fillP a i i = b at *
      have hgw := HG.out.1
      have hT1 := HA.out.below B0 (hgw ▸ HA.out.two)
      have hB0 : Below w.heap.size w wr := hgw ▸ B0
      have HE := Lib.hid (And.intro E1 (And.intro B0 (And.intro hbb (And.intro hT1 (And.intro hbl hB0))))); clear E1 B0 hbb hT1 hmk' hif hB0 hgw
      have hs := sum_any wr HE.out.2.2.2.1 b (some ⟨g, 0, none⟩) b.length (Nat.le_refl _) HE.out.2.2.1 (HE.out.1.rb (Nat.le_refl _)) (by omega)
      rw [hbl] at hs
      have HS := Lib.hid hs; clear hs
      have HR := Lib.hid (fun W (h : RW W (some ⟨g, 0, none⟩) b.length b) => rsum_any W b (some ⟨g, 0, none⟩) b.length (Nat.le_refl _) HE.out.2.2.1 h (by omega))
      rw [hbl] at HR
      have hsl := sha_length b
      generalize sha b = d at *
      have eqd := fun W => run_equalIn_dig W d d hsl hsl
      clear hbl HG
      go_wp2_with fail
      refine HS.out.mono ?_
      rintro e w1 ⟨rfl, B1⟩
      have H1 := Lib.hid B1; clear B1
      go_wp2_with fail
      refine (make_any w1).mono ?_
      rintro e w2 ⟨rfl, B2⟩
      have H2 := Lib.hid B2; clear B2
      go_wp2_with fail
      have E3 := (HE.out.1.below H1.out HE.out.1.lt).below H2.out (Nat.lt_of_lt_of_le HE.out.1.lt H1.out.size)
      refine (HR.out w2 E3.rw).mono ?_
      rintro e w3 ⟨rfl, B3⟩
      have H3 := Lib.hid (And.intro B3 E3); clear B3 E3
      go_wp2_with fail
      have T3 := ((HE.out.2.2.2.1.below H1.out HE.out.2.2.2.1.two).below H2.out (Nat.le_trans HE.out.2.2.2.1.two H1.out.size)).below H3.out.1 (Nat.le_trans HE.out.2.2.2.1.two (Nat.le_trans H1.out.size H2.out.size))
      refine (known_any w3 T3).mono ?_
      rintro e w4 ⟨rfl, B4⟩
      have H4 := Lib.hid B4; clear B4 T3
      go_wp2_with fail
      have l0 := HE.out.2.2.2.2.2.size
      have l1 := H1.out.size
      have l2 := H2.out.size
      have l3 := H3.out.1.size
      exact bodyPost_ret (v := .bool true) (by kernel_rfl) rfl ⟨rfl, HE.out.2.2.2.2.2.trans ((H1.out.mono l0).trans ((H2.out.mono (Nat.le_trans l0 l1)).trans ((H3.out.1.mono (Nat.le_trans l0 (Nat.le_trans l1 l2))).trans (H4.out.mono (Nat.le_trans l0 (Nat.le_trans l1 (Nat.le_trans l2 l3)))))))⟩
end Go.Proofs.YtediocpdpghbfaaDoor
namespace Go.Proofs.YtediocpdpghbfaaDoor
open Go Go.RowKit

def zer32 : List Nat := List.replicate 32 0
theorem zer32_length : zer32.length = 32 := rfl
theorem eq_zer_lit (W : World) : (Op.equalIn 10000 25 (.agg (u8s zer32)) (.agg #[.int .u8 0, .int .u8 0, .int .u8 0, .int .u8 0, .int .u8 0, .int .u8 0, .int .u8 0, .int .u8 0, .int .u8 0, .int .u8 0, .int .u8 0, .int .u8 0, .int .u8 0, .int .u8 0, .int .u8 0, .int .u8 0, .int .u8 0, .int .u8 0, .int .u8 0, .int .u8 0, .int .u8 0, .int .u8 0, .int .u8 0, .int .u8 0, .int .u8 0, .int .u8 0, .int .u8 0, .int .u8 0, .int .u8 0, .int .u8 0, .int .u8 0, .int .u8 0])).run Tryd.prog W = .ok true W := by
  have h := run_equalIn_dig W zer32 zer32 zer32_length zer32_length
  have e : (u8s zer32) = #[.int .u8 0, .int .u8 0, .int .u8 0, .int .u8 0, .int .u8 0, .int .u8 0, .int .u8 0, .int .u8 0, .int .u8 0, .int .u8 0, .int .u8 0, .int .u8 0, .int .u8 0, .int .u8 0, .int .u8 0, .int .u8 0, .int .u8 0, .int .u8 0, .int .u8 0, .int .u8 0, .int .u8 0, .int .u8 0, .int .u8 0, .int .u8 0, .int .u8 0, .int .u8 0, .int .u8 0, .int .u8 0, .int .u8 0, .int .u8 0, .int .u8 0, .int .u8 0] := by rfl
  rw [decide_eq_true rfl] at h
  rw [← e]
  exact h
theorem msum_zer (w : World) : Calls Tryd.prog 28 #[.pointer none] w fun e w' => e = .returned (.agg (u8s zer32)) ∧ Below w.heap.size w w' := msum_nil w
/-- W is a later world of w, in which the package's tables lie -/
structure At (w W : World) : Prop where
  t0 : Tabs w
  b : Below w.heap.size w W
theorem At.t {w W : World} (h : At w W) : Tabs W := h.t0.below h.b h.t0.two
theorem At.le {w W : World} (h : At w W) : w.heap.size ≤ W.heap.size := h.b.size
theorem At.step {w W W' : World} (h : At w W) (b : Below W.heap.size W W') : At w W' := ⟨h.t0, h.b.trans (b.mono h.b.size)⟩
theorem At.drew {w W : World} (h : At w W) : At w W.drew := ⟨h.t0, h.b.drew⟩
theorem At.grown {w W W' : World} {g : Nat} (h : At w W) (hg : W.grownBy W' (some g)) (hw : w.heap.size ≤ g) : At w W' :=
  ⟨h.t0, h.b.grown hg h.b.size (fun k hk => by injection hk with hk; omega)⟩
theorem OB.cap_le {w : World} {base : Nat} {A : Option Addr} {n cap : Nat} {l : List Nat} (h : OB w base A n cap l) : n ≤ cap := by
  obtain ⟨_, h⟩ := h
  rcases h.2 with ⟨hv, hx⟩ | ⟨g, cap', cur, hv, _, _, hle, _⟩
  · injection hv with _ e2 e3; omega
  · injection hv with _ _ e3; omega
theorem wpList_unguard {P : Program} {ops : Array Oper} {Q : Exit → Act → World → Prop} {o : Oper} {rest : List Oper} {a : Act} {w : World} (hw : Region.wanted o (yielded ops a.tmps) = true)
    (h : wpList P ops Q ({ o with guard := none } :: rest) a w) : wpList P ops Q (o :: rest) a w := by
  unfold wpList at h ⊢
  rw [if_pos hw]
  have hn : Region.wanted { o with guard := none } (yielded ops a.tmps) = true := rfl
  rw [if_pos hn] at h
  exact h
set_option maxRecDepth 100000 in
set_option maxHeartbeats 1000000 in
theorem law_clone (w : World) (hT : Tabs w) (a b c : List Nat) (A B C : Option Addr) (ca cb cc : Nat) (na nb nc : Nat) (la : a.length = na) (lb : b.length = nb) (lc : c.length = nc)
    (ha : na ≤ ca) (hb : nb ≤ cb) (hc : nc ≤ cc) (hBa : Bytes a) (hBb : Bytes b) (hBc : Bytes c) (hra : RW w A ca a) (hrb : RW w B cb b) (hrc : RW w C cc c) :
    Calls Tryd.prog 9 #[.slice A na ca, .slice B nb cb, .slice C nc cc] w fun e w' => e = .returned (.bool true) ∧ Below w.heap.size w w' := by
  have two := hT.two
  have H0 := Lib.hid (And.intro hT (And.intro la (And.intro lb (And.intro lc (And.intro hBa (And.intro hBb (And.intro hBc (And.intro hra (And.intro hrb hrc)))))))))
  clear hT la lb lc hBa hBb hBc hra hrb hrc
  have hzz := eq_zer_lit
  go_enter Tryd.func9, Tryd.ntmps9
  go_wp2_with fail
  refine (write_nil _ _).mono ?_
  rintro e w1 ⟨rfl, rfl⟩
  go_wp2_with fail
  refine (msum_zer _).mono ?_
  rintro e w2 ⟨rfl, B2⟩
  have T2 := H0.out.1.below B2 two
  have H2 := Lib.hid (And.intro B2 T2); clear B2 T2
  go_wp2_with fail
  refine (len_nil _).mono ?_
  rintro e w3 ⟨rfl, rfl⟩
  go_wp2_with fail
  refine (clone_nil _).mono ?_
  rintro e w4 ⟨rfl, rfl⟩
  clear hzz
  by_cases hbig : 500 < na ∨ 500 < nb ∨ 500 < nc
  · have tb : (if (if (500 : Int) < (na : Int) then true else decide ((500 : Int) < (nb : Int))) = true then true else decide ((500 : Int) < (nc : Int))) = true := by
      rcases hbig with h | h | h <;> simp <;> omega
    go_wp2_with fail
    all_goals
      refine (known_any _ H2.out.2).mono ?_
      rintro e w20 ⟨rfl, B20⟩
      have H20 := Lib.hid B20
      clear B20
      go_wp2_with fail
      go_ret
      exact ⟨rfl, H2.out.1.trans (H20.out.mono H2.out.1.size)⟩
  · have q1 : na ≤ 500 := by omega
    have q2 : nb ≤ 500 := by omega
    have q3 : nc ≤ 500 := by omega
    clear hbig
    go_wp2_with fail
    refine (new_any _ H2.out.2).mono ?_
    rintro e w5 ⟨rfl, h5, B5⟩
    have s5 : At w w5 := ⟨H0.out.1, H2.out.1.trans (B5.mono H2.out.1.size)⟩
    have g1w : w.heap.size ≤ w2.heap.size := H2.out.1.size
    generalize w2.heap.size = g1 at *
    have H5 := Lib.hid (And.intro h5 s5)
    clear h5 B5 s5 H2
    have hw6 := write_any w5 H5.out.2.t g1 (by omega) [] a H5.out.1 A ca (by rw [H0.out.2.1]; exact ha) H0.out.2.2.2.2.1 ((H0.out.2.2.2.2.2.2.2.1.rb (Nat.le_refl _)).move H5.out.2.b g1w) (by rw [H0.out.2.1]; simp; omega)
    rw [H0.out.2.1, List.nil_append] at hw6
    go_wp2_with fail
    refine hw6.mono ?_
    clear hw6
    rintro e w6 ⟨rfl, h6, G6⟩
    have s6 := H5.out.2.grown G6 g1w
    have H6 := Lib.hid (And.intro h6 s6)
    clear G6 h6 s6 H5
    go_wp2_with fail
    refine (clone_any w6 g1 a H6.out.1).mono ?_
    rintro e w7 ⟨rfl, h7, B7⟩
    have s7 := H6.out.2.step B7
    have g12 : g1 < w6.heap.size := H6.out.1.lt
    have k7 := H6.out.1.below B7 g12
    generalize w6.heap.size = g2 at *
    have H7 := Lib.hid (And.intro h7 (And.intro k7 s7))
    clear h7 k7 s7 B7 H6
    go_wp2_with fail
    have ld := sha_length a
    have HS := Lib.hid (fun W g (h : IsHash W g a) (s : At w W) => msum_any W s.t g a h (by rw [H0.out.2.1]; omega))
    have HL := Lib.hid (fun W g (h : IsHash W g a) => len_any W g a h)
    rw [H0.out.2.1] at HL
    generalize sha a = d at *
    have eqd := fun W => run_equalIn_dig W d d ld ld
    have hdec : decide (d = d) = true := by simp
    refine (HS.out _ _ H7.out.1 H7.out.2.2).mono ?_
    rintro e w8 ⟨rfl, B8⟩
    have H8 := Lib.hid (And.intro (H7.out.1.below B8 H7.out.1.lt) (And.intro (H7.out.2.1.below B8 H7.out.2.1.lt) (H7.out.2.2.step B8)))
    clear B8 H7
    go_wp2_with fail
    refine (HS.out _ _ H8.out.2.1 H8.out.2.2).mono ?_
    rintro e w9 ⟨rfl, B9⟩
    have H9 := Lib.hid (And.intro (H8.out.1.below B9 H8.out.1.lt) (And.intro (H8.out.2.1.below B9 H8.out.2.1.lt) (H8.out.2.2.step B9)))
    clear B9 H8
    go_wp2_with fail
    refine (HL.out _ _ H9.out.1).mono ?_
    rintro e w10 ⟨rfl, rfl⟩
    go_wp2_with fail
    refine (HL.out _ _ H9.out.2.1).mono ?_
    rintro e w10 ⟨rfl, rfl⟩
    clear eqd HS HL hdec
    go_wp2_with fail
    have hwb := write_any w9 H9.out.2.2.t g1 (by omega) a b H9.out.2.1 B cb (by rw [H0.out.2.2.1]; exact hb) H0.out.2.2.2.2.2.1 ((H0.out.2.2.2.2.2.2.2.2.1.rb (Nat.le_refl _)).move H9.out.2.2.b g1w) (by rw [H0.out.2.1, H0.out.2.2.1]; omega)
    rw [H0.out.2.2.1] at hwb
    refine hwb.mono ?_
    clear hwb
    rintro e w10 ⟨rfl, h10, G10⟩
    have H10 := Lib.hid (And.intro h10 (And.intro (H9.out.1.grown G10 (by intro e; injection e; omega)) (H9.out.2.2.grown G10 g1w)))
    clear h10 G10 H9
    go_wp2_with fail
    have hwc := write_any w10 H10.out.2.2.t g2 (by omega) a c H10.out.2.1 C cc (by rw [H0.out.2.2.2.1]; exact hc) H0.out.2.2.2.2.2.2.1 ((H0.out.2.2.2.2.2.2.2.2.2.rb (Nat.le_refl _)).move H10.out.2.2.b (by omega)) (by rw [H0.out.2.1, H0.out.2.2.2.1]; omega)
    rw [H0.out.2.2.2.1] at hwc
    refine hwc.mono ?_
    clear hwc
    rintro e w11 ⟨rfl, h11, G11⟩
    have H11 := Lib.hid (And.intro h11 (And.intro (H10.out.1.grown G11 (by intro e; injection e; omega)) (H10.out.2.2.grown G11 (by omega))))
    clear h11 G11 H10
    go_wp2_with fail
    have ld1 := sha_length (a ++ b)
    have ld2 := sha_length (a ++ c)
    have lab : (a ++ b).length = na + nb := by rw [List.length_append, H0.out.2.1, H0.out.2.2.1]
    have lac : (a ++ c).length = na + nc := by rw [List.length_append, H0.out.2.1, H0.out.2.2.2.1]
    have HS1 := Lib.hid (fun W (h : IsHash W g1 (a ++ b)) (s : At w W) => msum_any W s.t g1 (a ++ b) h (by rw [lab]; omega))
    have HS2 := Lib.hid (fun W (h : IsHash W g2 (a ++ c)) (s : At w W) => msum_any W s.t g2 (a ++ c) h (by rw [lac]; omega))
    have HT1 := Lib.hid (fun W (s : At w W) Z cz (hz : na + nb ≤ cz) (hr : RW W Z cz (a ++ b)) => sum_any W s.t (a ++ b) Z cz (by rw [lab]; exact hz) (H0.out.2.2.2.2.1.append H0.out.2.2.2.2.2.1) (hr.rb (Nat.le_refl _)) (by rw [lab]; omega))
    have HT2 := Lib.hid (fun W (s : At w W) Z cz (hz : na + nc ≤ cz) (hr : RW W Z cz (a ++ c)) => sum_any W s.t (a ++ c) Z cz (by rw [lac]; exact hz) (H0.out.2.2.2.2.1.append H0.out.2.2.2.2.2.2.1) (hr.rb (Nat.le_refl _)) (by rw [lac]; omega))
    rw [lab] at HT1
    rw [lac] at HT2
    clear lab lac
    generalize sha (a ++ b) = d1 at *
    generalize sha (a ++ c) = d2 at *
    have eqd1 := fun W => run_equalIn_dig W d1 d1 ld1 ld1
    have eqd2 := fun W => run_equalIn_dig W d2 d2 ld2 ld2
    have hdec1 : decide (d1 = d1) = true := by simp
    have hdec2 : decide (d2 = d2) = true := by simp
    refine (HS1.out _ H11.out.2.1 H11.out.2.2).mono ?_
    rintro e w12 ⟨rfl, B12⟩
    have H12 := Lib.hid (And.intro (H11.out.1.below B12 H11.out.1.lt) (H11.out.2.2.step B12))
    clear B12 H11
    go_wp2_with (first
      | (at_builtin; refine wpList_app8 rfl (.tmp 78) (.tmp 79) rfl w12.heap.size _ 0 0 [] rfl (ob_empty _ (Nat.le_refl _)) A na ca a rfl H0.out.2.1 ((H0.out.2.2.2.2.2.2.2.1.below H12.out.2.b).alloc _) (by omega) (by simp) ?_; intro A1 c1 w13 O13 B13 _; simp only [Nat.zero_add, List.nil_append] at O13; have H13 := Lib.hid (And.intro O13 (((Below.refl _ _).alloc (Nat.le_refl _) _).trans B13)); clear O13 B13)
      | (at_builtin; refine wpList_app8 rfl (.tmp 80) (.tmp 81) rfl w12.heap.size A1 na c1 a rfl H13.out.1 B nb cb b rfl H0.out.2.2.1 (H0.out.2.2.2.2.2.2.2.2.1.below (H12.out.2.step H13.out.2).b) (by omega) H13.out.2.size ?_; intro A2 c2 w14 O14 B14 _; have H14 := Lib.hid (And.intro O14 (H13.out.2.trans B14)); clear O14 B14))
    refine (HT1.out _ (H12.out.2.step H14.out.2) A2 c2 H14.out.1.cap_le H14.out.1.rw).mono ?_
    rintro e w15 ⟨rfl, B15⟩
    have H15 := Lib.hid (And.intro ((H12.out.1.below H14.out.2 H12.out.1.lt).below B15 (Nat.lt_of_lt_of_le H12.out.1.lt H14.out.2.size)) ((H12.out.2.step H14.out.2).step B15))
    clear B15
    go_wp2_with fail
    refine (HS2.out _ H15.out.1 H15.out.2).mono ?_
    rintro e w16 ⟨rfl, B16⟩
    have H16 := Lib.hid (H15.out.2.step B16)
    clear B16
    go_wp2_with (first
      | (at_builtin; refine wpList_unguard rfl (wpList_app8 rfl (.tmp 88) (.tmp 89) rfl w16.heap.size _ 0 0 [] rfl (ob_empty _ (Nat.le_refl _)) A na ca a rfl H0.out.2.1 ((H0.out.2.2.2.2.2.2.2.1.below H16.out.b).alloc _) (by omega) (by simp) ?_); intro A3 c3 w17 O17 B17 _; simp only [Nat.zero_add, List.nil_append] at O17; have H17 := Lib.hid (And.intro O17 (((Below.refl _ _).alloc (Nat.le_refl _) _).trans B17)); clear O17 B17)
      | (at_builtin; refine wpList_unguard rfl (wpList_app8 rfl (.tmp 90) (.tmp 91) rfl w16.heap.size A3 na c3 a rfl H17.out.1 C nc cc c rfl H0.out.2.2.2.1 (H0.out.2.2.2.2.2.2.2.2.2.below (H16.out.step H17.out.2).b) (by omega) H17.out.2.size ?_); intro A4 c4 w18 O18 B18 _; have H18 := Lib.hid (And.intro O18 (H17.out.2.trans B18)); clear O18 B18))
    refine (HT2.out _ (H16.out.step H18.out.2) A4 c4 H18.out.1.cap_le H18.out.1.rw).mono ?_
    rintro e w19 ⟨rfl, B19⟩
    have H19 := Lib.hid ((H16.out.step H18.out.2).step B19)
    clear B19
    go_wp2_with fail
    refine (known_any _ H19.out.t).mono ?_
    rintro e w20 ⟨rfl, B20⟩
    have H20 := Lib.hid (H19.out.step B20)
    clear B20
    go_wp2_with fail
    go_ret
    exact ⟨rfl, H20.out.b⟩
end Go.Proofs.YtediocpdpghbfaaDoor
namespace Go.Proofs.YtediocpdpghbfaaDoor
open Go Go.RowKit

/-- a slice of slices of bytes that reads as ps -/
def PW (w : World) (A : Option Addr) (ps : List (List Nat)) : Prop :=
  ps = [] ∨ ∃ g off, A = some ⟨g, off, none⟩ ∧ g < w.heap.size ∧ ∀ j, j < ps.length → ∃ Aj cj, w.cell? ⟨g, off + j, none⟩ = some (.slice Aj (ps.getD j []).length cj) ∧ (ps.getD j []).length ≤ cj ∧ cj ≤ 140737488355328 ∧ Bytes (ps.getD j []) ∧ RW w Aj cj (ps.getD j [])
theorem OB.grown {w w' : World} {base : Nat} {A : Option Addr} {n cap : Nat} {l : List Nat} {g : Nat} (h : OB w base A n cap l) (hg : w.grownBy w' (some g)) (hb : g < base) : OB w' base A n cap l := by
  refine ⟨h.1, h.2.1, ?_⟩
  rcases h.2.2 with h2 | ⟨k, cap', cur, hv, hk, hh, h3, h4, h5, h6⟩
  · exact .inl h2
  · exact .inr ⟨k, cap', cur, hv, hk, (hg.block k (Array.getElem?_eq_some_iff.1 hh).1 (by intro e; injection e; omega)).trans hh, h3, h4, h5, h6⟩
theorem ob_nil (w : World) (base : Nat) : OB w base none 0 0 [] := ⟨rfl, rfl, .inl ⟨rfl, rfl⟩⟩
set_option maxRecDepth 100000 in
set_option maxHeartbeats 2000000 in
theorem law_hash (w : World) (hT : Tabs w) (ps : List (List Nat)) (A : Option Addr) (ca n : Nat) (ln : ps.length = n) (ha : n ≤ ca) (hca : ca ≤ 9223372036854775807) (hp : PW w A ps) :
    Calls Tryd.prog 6 #[.slice A n ca] w fun e w' => e = .returned (.bool true) ∧ Below w.heap.size w w' := by
  have two := hT.two
  have H0 := Lib.hid (And.intro hT (And.intro ln hp))
  clear hT ln hp
  go_enter Tryd.func6, Tryd.ntmps6
  go_wp2_with fail
  refine (new_any _ H0.out.1).mono ?_
  rintro e w1 ⟨rfl, h1, B1⟩
  obtain ⟨g, hg⟩ : ∃ g, w.heap.size = g := ⟨_, rfl⟩
  have hg1 : g < w1.heap.size := by rw [← hg]; exact h1.lt
  have HG := Lib.hid hg
  have H1 := Lib.hid (And.intro h1 (At.mk H0.out.1 B1))
  rw [hg] at H1 two ⊢
  clear h1 B1 hg
  go_wp2_with fail
  go_loopg [4, 5] n (fun f av iv wr => ∃ (k : Nat) (Z : Option Addr) (m cz : Nat) (M : List Nat), k + f = n ∧ iv = .int .i64 k ∧ av = .slice Z m cz ∧ m ≤ 1000 ∧ M.length = m ∧ Bytes M ∧ OB wr (g + 1) Z m cz M ∧ IsHash wr g M ∧ At w wr)
  case atStart => exact ⟨0, none, 0, 0, [], by omega, rfl, rfl, by omega, rfl, Bytes.nil, ob_nil _ _, H1.out.1, H1.out.2⟩
  case round =>
    obtain ⟨k, Z, m, cz, M, hkf, rfl, rfl, hm, lM, bM, O, I, S⟩ := hrel
    by_cases hc : k < n ∧ k < 30 ∧ m + (ps.getD k []).length ≤ 1000
    · obtain ⟨hk, hk30, hlen⟩ := hc
      rcases H0.out.2.2 with hnil | ⟨pg, po, rfl, hpg, hcell⟩
      · rw [hnil] at H0; have := H0.out.2.1; simp at this; omega
      obtain ⟨Aj, cj, c1, c2, c3, c4, c5⟩ := hcell k (by rw [H0.out.2.1]; exact hk)
      clear hcell
      generalize ps.getD k [] = p at *
      obtain ⟨x, hx⟩ : ∃ x, p.length = x := ⟨_, rfl⟩
      rw [hx] at c1 c2 hlen
      have d1 := (S.b.cell (p := ⟨pg, po + k, none⟩) hpg).trans c1
      have HE := Lib.hid (And.intro hkf (And.intro lM (And.intro bM (And.intro O (And.intro I (And.intro S (And.intro c4 (And.intro c5 (And.intro hx c1)))))))))
      clear hkf lM bM O I S c1 c4 c5 hx
      go_wp2_with fail
      obtain ⟨hkf, lM, bM, O, I, S, c4, c5, hx, c1⟩ := HE.out
      have hgw := HG.out
      have hwr := write_any wr S.t g two M p I Aj cj (by rw [hx]; exact c2) c4 ((c5.rb (Nat.le_refl _)).move S.b (by omega)) (by rw [lM, hx]; omega)
      rw [hx] at hwr
      refine hwr.mono ?_
      clear hwr
      rintro e w2 ⟨rfl, I2, G2⟩
      have S2 := S.grown G2 (by omega)
      have d2 := (S2.b.cell (p := ⟨pg, po + k, none⟩) hpg).trans c1
      have lN : (M ++ p).length = m + x := by rw [List.length_append, lM, hx]
      have H2 := Lib.hid (And.intro I2 (And.intro S2 (O.grown G2 (Nat.lt_succ_self g))))
      clear I2 S2 G2 hkf lM bM O I S c4 c5 hx c1 d1
      go_wp2_with (at_builtin; refine wpList_app8 rfl (.tmp 35) (.tmp 39) rfl (g + 1) Z m cz M rfl H2.out.2.2 Aj x cj p rfl HE.out.2.2.2.2.2.2.2.2.1 (HE.out.2.2.2.2.2.2.2.1.below H2.out.2.1.b) (by omega) (by have := H2.out.1.lt; omega) ?_; intro Z3 c3 w3 O3 B3 _; have H3 := Lib.hid (And.intro O3 B3); clear O3 B3)
      have I3 := H2.out.1.below H3.out.2 (Nat.lt_succ_self g)
      have S3 : At w w3 := ⟨H0.out.1, H2.out.2.1.b.trans (H3.out.2.mono (by have := HG.out; omega))⟩
      have hl := len_any w3 g (M ++ p) I3
      rw [lN] at hl
      refine hl.mono ?_
      clear hl
      rintro e w4 ⟨rfl, rfl⟩
      have ld := sha_length (M ++ p)
      have bN : Bytes (M ++ p) := HE.out.2.2.1.append HE.out.2.2.2.2.2.2.1
      have HS1 := Lib.hid (fun W (h : IsHash W g (M ++ p)) (s : At w W) => msum_any W s.t g (M ++ p) h (by rw [lN]; omega))
      have HS2 := Lib.hid (fun W (s : At w W) Z cz (hz : m + x ≤ cz) (hr : RW W Z cz (M ++ p)) => sum_any W s.t (M ++ p) Z cz (by rw [lN]; exact hz) bN (hr.rb (Nat.le_refl _)) (by rw [lN]; omega))
      rw [lN] at HS2
      generalize sha (M ++ p) = d at *
      have eqd := fun W => run_equalIn_dig W d d ld ld
      have hdec : decide (d = d) = true := by simp
      have H4 := Lib.hid (And.intro I3 (And.intro S3 (And.intro lN bN)))
      clear I3 S3 lN bN
      go_wp2_with fail
      refine (HS1.out _ H4.out.1 H4.out.2.1).mono ?_
      rintro e w5 ⟨rfl, B5⟩
      have H5 := Lib.hid (And.intro (H4.out.1.below B5 H4.out.1.lt) (And.intro (H4.out.2.1.step B5) (H3.out.1.below B5)))
      clear B5
      go_wp2_with fail
      refine (HS2.out _ H5.out.2.1 Z3 c3 H5.out.2.2.cap_le H5.out.2.2.rw).mono ?_
      rintro e w6 ⟨rfl, B6⟩
      have H6 := Lib.hid (And.intro (H5.out.1.below B6 H5.out.1.lt) (And.intro (H5.out.2.1.step B6) (H5.out.2.2.below B6)))
      clear B6
      go_wp2_with fail
      go_roundg (gk - 1)
      case measure => have := HE.out.1; omega
      case rel => exact ⟨k + 1, Z3, m + x, c3, M ++ p, by have := HE.out.1; omega, by go_num, by simp, by omega, H4.out.2.2.1, H4.out.2.2.2, H6.out.2.2, H6.out.1, H6.out.2.1⟩
    · have hlc : k < n → k < 30 → 1000 < m + (ps.getD k []).length := fun h1 h2 => by
        rcases Nat.lt_or_ge 1000 (m + (ps.getD k []).length) with h | h
        · exact h
        · exact absurd ⟨h1, h2, h⟩ hc
      clear hc
      have HE := Lib.hid (And.intro hkf (And.intro lM (And.intro bM (And.intro O (And.intro I S)))))
      clear hkf lM bM O I S
      have ld := sha_length M
      have HS := Lib.hid (fun W (h : IsHash W g M) (s : At w W) => msum_any W s.t g M h (by rw [HE.out.2.1]; omega))
      have HR := Lib.hid (fun W (hr : RW W Z cz M) => rsum_any W M Z cz (by rw [HE.out.2.1]; exact HE.out.2.2.2.1.cap_le) HE.out.2.2.1 hr (by rw [HE.out.2.1]; omega))
      rw [HE.out.2.1] at HR
      have HM := Lib.hid make_any
      generalize TT = T at *
      generalize sha M = d at *
      have eqd := fun W => run_equalIn_dig W d d ld ld
      have hdec : decide (d = d) = true := by simp
      have parts : (k < n ∧ k < 30) ∨ (k < n ∧ ¬ k < 30) ∨ ¬ k < n := by omega
      rcases parts with ⟨hk, hk30⟩ | ⟨hk, hk30⟩ | hk
      · rcases H0.out.2.2 with hnil | ⟨pg, po, rfl, hpg, hcell⟩
        · rw [hnil] at H0; have := H0.out.2.1; simp at this; omega
        obtain ⟨Aj, cj, c1, c2, c3, c4, c5⟩ := hcell k (by rw [H0.out.2.1]; exact hk)
        have hbig := hlc hk hk30
        clear hcell hlc
        generalize ps.getD k [] = p at *
        obtain ⟨x, hx⟩ : ∃ x, p.length = x := ⟨_, rfl⟩
        rw [hx] at c1 c2 hbig
        have hx3 : x ≤ 9223372036854775807 - 1000 := by omega
        have d1 := (HE.out.2.2.2.2.2.b.cell (p := ⟨pg, po + k, none⟩) hpg).trans c1
        clear c1 c4 c5 hx c3
        go_wp2_with fail
        refine (HS.out _ HE.out.2.2.2.2.1 HE.out.2.2.2.2.2).mono ?_
        rintro e w2 ⟨rfl, B2⟩
        have H2 := Lib.hid (And.intro (HE.out.2.2.2.2.2.step B2) (HE.out.2.2.2.1.below B2))
        clear B2
        go_wp2_with fail
        refine (HM.out _).mono ?_
        rintro e w3 ⟨rfl, B3⟩
        have H3 := Lib.hid (And.intro (H2.out.1.step B3) (H2.out.2.below B3))
        clear B3
        go_wp2_with fail
        refine (HR.out _ H3.out.2.rw).mono ?_
        rintro e w4 ⟨rfl, B4⟩
        have H4 := Lib.hid (H3.out.1.step B4)
        clear B4
        go_wp2_with fail
        refine (known_any _ H4.out.t).mono ?_
        rintro e w5 ⟨rfl, B5⟩
        have H5 := Lib.hid (H4.out.step B5)
        clear B5
        go_wp2_with fail
        go_ret
        exact ⟨rfl, HG.out ▸ H5.out.b⟩
      all_goals
        clear hlc
        go_wp2_with fail
        refine (HS.out _ HE.out.2.2.2.2.1 HE.out.2.2.2.2.2).mono ?_
        rintro e w2 ⟨rfl, B2⟩
        have H2 := Lib.hid (And.intro (HE.out.2.2.2.2.2.step B2) (HE.out.2.2.2.1.below B2))
        clear B2
        go_wp2_with fail
        refine (HM.out _).mono ?_
        rintro e w3 ⟨rfl, B3⟩
        have H3 := Lib.hid (And.intro (H2.out.1.step B3) (H2.out.2.below B3))
        clear B3
        go_wp2_with fail
        refine (HR.out _ H3.out.2.rw).mono ?_
        rintro e w4 ⟨rfl, B4⟩
        have H4 := Lib.hid (H3.out.1.step B4)
        clear B4
        go_wp2_with fail
        refine (known_any _ H4.out.t).mono ?_
        rintro e w5 ⟨rfl, B5⟩
        have H5 := Lib.hid (H4.out.step B5)
        clear B5
        go_wp2_with fail
        go_ret
        exact ⟨rfl, HG.out ▸ H5.out.b⟩
end Go.Proofs.YtediocpdpghbfaaDoor
namespace Go.Proofs.YtediocpdpghbfaaDoor
open Go Go.ChangeShapes Go.WideShapes Go.ChangeAt Go.RowKit Go.Deep

theorem cells22 : Tryd.prog.cellsOf 22 = 1 := by kernel_rfl
theorem bytes5 : Tryd.prog.bytesOf 5 = 1 := by kernel_rfl
theorem weights_mem {H : Type} (e : TypeId) : ∀ (l : List (DataW H)) (d : DataW H), d ∈ l → ∀ x ∈ d.weights Tryd.prog e, x ∈ DataW.weightsAll Tryd.prog e l
  | [], d, h, _, _ => by simp at h
  | y :: l, d, h, x, hx => by
    unfold DataW.weightsAll
    rcases List.mem_cons.1 h with rfl | h
    · exact List.mem_append_left _ hx
    · exact List.mem_append_right _ (weights_mem e l d h x hx)
set_option maxRecDepth 100000 in
theorem pieces_arg {H : Type} {enc : TypeId × Value → H} {W : World} {base : Nat} {v : Value} {d : DataW H} {p : List MemPlace}
    (hv : Value.okWide Tryd.prog W .any base 41 v) (h : DataW.Trod enc Tryd.prog W 0 (fun _ => true) true 41 v d p) (hw : (d.weights Tryd.prog 41).all (· ≤ reachBytes) = true) :
    ∃ (A : Option Addr) (cap : Nat) (ps : List (List Nat)), v = .slice A ps.length cap ∧ ps.length ≤ cap ∧ cap ≤ maxLen ∧ PW W A ps := by
  obtain ⟨a0, len0, cap0, hv0⟩ := okWide_slice Tryd.underlying41 hv
  subst hv0
  clear hv
  obtain ⟨fuel, hf⟩ := h
  rcases open_int_rows Tryd.underlying41 Tryd.underlying22 Tryd.underlying5 cells22 cells5 hf with ⟨hcs, hx⟩ | ⟨a, len, cap, A, L, C, Z, hcs, _, hl, hm, hx, hrow⟩
  · simp [Value.cells] at hcs
    obtain ⟨rfl, rfl, rfl⟩ := hcs
    exact ⟨none, 0, [], rfl, Nat.le_refl _, Nat.zero_le _, .inl rfl⟩
  · simp [Value.cells] at hcs
    obtain ⟨rfl, rfl, rfl⟩ := hcs
    simp only [Prod.mk.injEq] at hx
    obtain ⟨rfl, rfl⟩ := hx
    refine ⟨some a, cap0, (List.range len0).map (fun r => ((Z r).take (L r)).map Int.toNat), by simp, by simpa using hl, hm, ?_⟩
    by_cases h0 : len0 = 0
    · left; simp [h0]
    right
    have hc0 := (hrow 0 (by omega)).1
    have hspot : a.spot = none := by
      obtain ⟨b, off, spot⟩ := a
      simpa [Addr.add] using World.cell?_spot hc0
    obtain ⟨b, off, spot⟩ := a
    simp only at hspot
    subst hspot
    rw [addr_add] at hc0
    refine ⟨b, off, rfl, block_lt_of_cell hc0, fun j hj => ?_⟩
    have hj' : j < len0 := by simpa using hj
    obtain ⟨h1, h2, h3, h4, h5, h6, h7⟩ := hrow j (by omega)
    rw [addr_add] at h1
    have hget : ((List.range len0).map (fun r => ((Z r).take (L r)).map Int.toNat)).getD j [] = ((Z j).take (L j)).map Int.toNat := by
      simp [List.getD_eq_getElem?_getD, List.getElem?_range hj']
    rw [hget]
    have hlen : (((Z j).take (L j)).map Int.toNat).length = L j := by simp; omega
    have hb : ∀ z ∈ Z j, 0 ≤ z ∧ z ≤ 255 := fun z hz => by simpa [Lit.wf, IntKind.min, IntKind.max, IntKind.signed, IntKind.bits] using h5 z hz
    have hcap : C j ≤ 140737488355328 := by
      cases hA : A j with
      | none => have := h6 hA; omega
      | some ad =>
        have hmem : C j ∈ (intRow (H := H) IntKind.u8 (A j) (L j) (Z j)).weights Tryd.prog 22 := by
          rw [hA]
          unfold intRow DataW.weights
          simp only [Tryd.underlying22, bytes5]
          refine List.mem_cons.2 (.inl ?_)
          simp [lits]; omega
        have := List.all_eq_true.1 hw (C j) (by
          unfold DataW.weights
          simp only [Tryd.underlying41]
          refine List.mem_cons_of_mem _ (List.mem_append_left _ (weights_mem 22 _ _ (List.mem_map.2 ⟨j, List.mem_range.2 hj', rfl⟩) _ hmem)))
        have h9 : C j ≤ reachBytes := by simpa using this
        unfold reachBytes at h9
        omega
    refine ⟨A j, C j, by rw [hlen]; exact h1, by rw [hlen]; exact h2, hcap, ?_, ⟨fun e => ?_, fun ad had hne => ?_⟩⟩
    · refine Bytes.of_mem fun x hx => ?_
      obtain ⟨z, hz', rfl⟩ := List.mem_map.1 hx
      have := hb z (List.mem_of_mem_take hz')
      omega
    · have hc := h6 e
      refine ⟨hc, List.eq_nil_of_length_eq_zero (by rw [hlen]; omega)⟩
    · have hpos : 0 < L j := by rw [← hlen]; exact List.length_pos_iff.2 hne
      have hcell := (h7 ad had).2
      have hz0 := hcell 0 (by omega)
      have hsp : ad.spot = none := by
        obtain ⟨b, off, spot⟩ := ad
        simpa [Addr.add] using World.cell?_spot hz0
      obtain ⟨b2, off2, spot2⟩ := ad
      simp only at hsp
      subst hsp
      rw [addr_add] at hz0
      refine ⟨rfl, block_lt_of_cell hz0, fun i hi => ?_⟩
      rw [hlen] at hi
      have hci := hcell i (by omega)
      rw [addr_add] at hci
      rw [hci]
      have hi2 : i < (Z j).length := by omega
      have hz1 := hb (Z j)[i] (List.getElem_mem hi2)
      simp [List.getD_eq_getElem?_getD, List.getElem?_eq_getElem hi2, List.getElem?_take, hi]
      omega
end Go.Proofs.YtediocpdpghbfaaDoor
namespace Go.Proofs.YtediocpdpghbfaaDoor
open Go Go.ChangeShapes Go.WideShapes Go.ChangeAt Go.RowKit

def zOf : Value → Int
  | .int _ z => z
  | _ => 0
set_option maxRecDepth 100000 in
theorem arr_cells {W : World} {base n : Nat} {t e : TypeId} {k : IntKind} {v : Value} (ht : Tryd.prog.underlying t = some (.array n e)) (he : Tryd.prog.underlying e = some (.int k))
    (hts : (Tryd.prog.cellTypes Tryd.prog.depth t).map (fun ts => ts.all (· == e)) = some true) (hv : Value.okWide Tryd.prog W .any base t v) :
    ∃ zs : List Int, v = .agg (zs.map fun z => Value.int k z).toArray ∧ zs.length = Tryd.prog.cellsOf t ∧ ∀ z ∈ zs, k.has z := by
  simp only [Value.okWide, ht] at hv
  obtain ⟨cs, rfl, hsz, ts, h1, _, h3⟩ := hv
  rw [h1] at hts
  have hall : ∀ u ∈ ts, u = e := by simpa using hts
  have hc : ∀ (i : Nat) (x : Value), cs[i]? = some x → ∃ z, x = Value.int k z ∧ k.has z := by
    intro i x hx
    obtain ⟨u, hu, hok⟩ := h3 i x hx
    obtain rfl := hall u (List.mem_of_getElem? hu)
    unfold Cell.okWide at hok
    rw [he] at hok
    cases x <;> simp [Cell.ok, he] at hok
    exact ⟨_, by rw [hok.1], hok.2⟩
  refine ⟨cs.toList.map zOf, ?_, by simp [hsz], ?_⟩
  · congr 1
    apply Array.ext'
    simp only [List.map_map]
    refine List.ext_getElem (by simp) fun i h1 h2 => ?_
    obtain ⟨z, hz, _⟩ := hc i cs.toList[i] (by simp [Array.getElem?_eq_getElem (by simpa using h1)])
    simp only [List.getElem_map, Function.comp_apply]
    rw [hz]
    rfl
  · intro z hz
    obtain ⟨x, hx, rfl⟩ := List.mem_map.1 hz
    obtain ⟨i, hi⟩ := List.getElem?_of_mem hx
    obtain ⟨z, rfl, hz2⟩ := hc i x (by simpa using hi)
    exact hz2
theorem arr_nat (k : IntKind) (zs : List Int) (h : ∀ z ∈ zs, 0 ≤ z) : (zs.map fun z => Value.int k z) = (zs.map Int.toNat).map fun n : Nat => Value.int k (n : Int) := by
  rw [List.map_map]
  refine List.map_congr_left fun z hz => ?_
  simp only [Function.comp_apply]
  rw [Int.toNat_of_nonneg (h z hz)]
set_option maxRecDepth 100000 in
theorem st_arg {W : World} {base : Nat} {v : Value} (hv : Value.okWide Tryd.prog W .any base 30 v) : ∃ l : List Nat, v = .agg (u32s l) ∧ l.length = 8 ∧ Words l := by
  obtain ⟨zs, rfl, hl, hz⟩ := arr_cells Tryd.underlying30 Tryd.underlying28 (by kernel_rfl) hv
  have hb : ∀ z ∈ zs, 0 ≤ z ∧ z ≤ 4294967295 := fun z h => by simpa [IntKind.has, IntKind.min, IntKind.max, IntKind.signed, IntKind.bits] using hz z h
  refine ⟨zs.map Int.toNat, by rw [arr_nat _ zs (fun z h => (hb z h).1)]; rfl, by rw [List.length_map, hl, cells30], fun i => ?_⟩
  rcases Nat.lt_or_ge i zs.length with hi | hi
  · have := hb zs[i] (List.getElem_mem hi)
    simp [List.getD_eq_getElem?_getD, List.getElem?_eq_getElem hi]; omega
  · simp [List.getD_eq_getElem?_getD, List.getElem?_eq_none hi]
theorem cells37 : Tryd.prog.cellsOf 37 = 64 := by kernel_rfl
theorem cells24 : Tryd.prog.cellsOf 24 = 32 := by kernel_rfl
set_option maxRecDepth 100000 in
theorem bytes_arr {W : World} {base n : Nat} {t : TypeId} {v : Value} (ht : Tryd.prog.underlying t = some (.array n 5)) (hts : (Tryd.prog.cellTypes Tryd.prog.depth t).map (fun ts => ts.all (· == 5)) = some true)
    (hv : Value.okWide Tryd.prog W .any base t v) : ∃ l : List Nat, v = .agg (u8s l) ∧ l.length = Tryd.prog.cellsOf t ∧ Bytes l := by
  obtain ⟨zs, rfl, hl, hz⟩ := arr_cells ht Tryd.underlying5 hts hv
  have hb : ∀ z ∈ zs, 0 ≤ z ∧ z ≤ 255 := fun z h => by simpa [IntKind.has, IntKind.min, IntKind.max, IntKind.signed, IntKind.bits] using hz z h
  refine ⟨zs.map Int.toNat, by rw [arr_nat _ zs (fun z h => (hb z h).1)]; rfl, by rw [List.length_map, hl], Bytes.of_mem fun x hx => ?_⟩
  obtain ⟨z, h, rfl⟩ := List.mem_map.1 hx
  have := hb z h
  omega
end Go.Proofs.YtediocpdpghbfaaDoor
namespace Go.Proofs.YtediocpdpghbfaaDoor
open Go Go.RowKit

theorem strOf_size (l : List Nat) : (strOf l).size = l.length := by
  rw [strOf]; simp [ByteArray.size]
theorem strOf_append (a b : List Nat) : strOf a ++ strOf b = strOf (a ++ b) := by
  apply ByteArray.ext
  simp [strOf, ByteArray.data_append]
theorem digits_slice (n : Nat) (h : n < 16) (w : World) :
    (Instr.slice 9 (.string digitsBA) (some (.int .u8 (n : Int))) (some (.int .u8 ((n : Int) + 1))) none).run Tryd.prog w = .ok (.string (strOf [hexd n])) w := by
  have hs : digitsBA.size = 16 := rfl
  have e : digitsBA.extract n (n + 1) = strOf [hexd n] := by
    have key : ∀ n : Fin 16, (digitsBA.extract n.val (n.val + 1)) = strOf [hexd n.val] := by decide
    exact key ⟨n, h⟩
  have e2 : ((n : Int) + 1).toNat = n + 1 := by omega
  have h1 : (n : Int) + 1 ≤ 16 := by omega
  have b1 : (Instr.sliceBound (.int .u8 (n : Int)) (n + 1) .sliceB).run Tryd.prog w = .ok n w := by
    have := run_sliceBound (P := Tryd.prog) w .u8 (n : Int) (n + 1) .sliceB (by omega) (by omega)
    simpa using this
  simp [Instr.slice, run_underlying Tryd.underlying9, Instr.sliceBounds, run_sliceBound, hs, h1, e2, e, b1, (by omega : (0 : Int) ≤ (n : Int) + 1)]
/-- the number of bytes that the text has behind t of the digest's bytes -/
theorem hexL_take (d : List Nat) (t : Nat) (h : t < d.length) : hexL (d.take (t + 1)) = hexL (d.take t) ++ [hexd (d.getD t 0 / 16)] ++ [hexd (d.getD t 0 % 16)] := by
  have htake : d.take (t + 1) = d.take t ++ [d.getD t 0] := by
    rw [List.take_succ_eq_append_getElem h]; simp [List.getD_eq_getElem?_getD, List.getElem?_eq_getElem h]
  rw [htake, hexL_snoc]; simp
set_option maxRecDepth 100000 in
set_option maxHeartbeats 1000000 in
theorem rtext_any (w : World) (d : List Nat) (hd : d.length = 32) (hB : Bytes d) :
    Calls Tryd.prog 34 #[.agg (u8s d)] w fun e w' => e = .returned (.string (strOf (hexL d))) ∧ Below w.heap.size w w' := by
  have E0 := Blk.new w 24 (u8s d)
  have B0 := (Below.refl w.heap.size w).alloc (Nat.le_refl _) (.cells (u8s d) 24)
  have HA := Lib.hid (And.intro E0 B0)
  clear E0 B0
  obtain ⟨g, hg⟩ : ∃ g, g = w.heap.size := ⟨_, rfl⟩
  rw [← hg] at HA ⊢
  go_enter Tryd.func34, Tryd.ntmps34
  go_wp2_with fail
  rw [← hg]
  clear hg
  go_loopg [3, 4] 32 (fun k s i wr => ∃ t : Nat, t + k = 32 ∧ i = .int .i64 t ∧ s = .string (strOf (hexL (d.take t))) ∧ Blk wr g 24 (u8s d) ∧ Below g w wr)
  case atStart => exact ⟨0, rfl, rfl, rfl, HA.out.1, HA.out.2⟩
  case round =>
    obtain ⟨t, htk, rfl, rfl, E, B⟩ := hrel
    by_cases ht : t < 32
    · have c := E.drew.u8 (i := t) (by omega)
      have hb := hB t
      have hnext := hexL_take d t (by omega)
      have hz0 := strOf_size (hexL (d.take t))
      rw [hexL_length, List.length_take, Nat.min_eq_left (by omega)] at hz0
      generalize d.getD t 0 = b at *
      have s1 := fun W => digits_slice (b / 16) (by omega) W
      have s2 := fun W => digits_slice (b % 16) (by omega) W
      have z1 := strOf_size [hexd (b / 16)]
      have z2 := strOf_size [hexd (b % 16)]
      have hcat : strOf (hexL (d.take t)) ++ strOf [hexd (b / 16)] ++ strOf [hexd (b % 16)] = strOf (hexL (d.take (t + 1))) := by rw [strOf_append, strOf_append, hnext]
      have hza : (strOf (hexL (d.take t)) ++ strOf [hexd (b / 16)]).size = 2 * t + 1 := by rw [ByteArray.size_append, hz0, z1]; rfl
      simp only [Int.natCast_emod, Int.natCast_ediv, Int.cast_ofNat_Int, digitsBA] at s1 s2
      generalize strOf (hexL (d.take t)) = S0 at *
      generalize strOf [hexd (b / 16)] = S1 at *
      generalize strOf [hexd (b % 16)] = S2 at *
      generalize hS : S0 ++ S1 = S3 at *
      generalize hS4 : S3 ++ S2 = S4 at *
      have q1 : S0.size + S1.size ≤ 9223372036854775807 := by simp at z1; omega
      have q2 : S3.size + S2.size ≤ 9223372036854775807 := by simp at z2; omega
      have HE := Lib.hid (And.intro htk (And.intro E (And.intro B (And.intro hcat hnext))))
      clear htk E B hcat hnext hz0 z1 z2 hza
      go_wp2_with fail
      refine wp_region_sego [0, 0, 0, 0, 0, 0, 0, 0, 0, 0, 0, 0, 0, 0, 0, 0, 0, 0, 0, 0, 0, 0, 0, 0] [] (by kernel_rfl) (by kernel_rfl) (fun _ _ d _ _ h => by cases d <;> exact h) (sego_end fun K0 hK0 => ?_)
      simp only [pickC, ↓reduceIte, Nat.reduceEqDiff, Nat.reduceAdd]
      go_wp2_with fail
      refine hK0.out _ ?_
      clear hK0 K0
      go_wp2_with fail
      go_roundg (gk - 1)
      case measure => have := HE.out.1; omega
      case rel =>
        obtain ⟨htk, E, B, hcat, _⟩ := HE.out
        exact ⟨t + 1, by omega, by go_num, by rw [hcat], E.drew, B.drew⟩
    · obtain rfl : t = 32 := by omega
      have HE := Lib.hid B
      rw [List.take_of_length_le (by omega)]
      clear htk E B
      go_wp2_with fail
      go_ret
      exact ⟨rfl, HE.out⟩
end Go.Proofs.YtediocpdpghbfaaDoor
namespace Go.Proofs.YtediocpdpghbfaaDoor
open Go Go.RowKit

/-- the digest while the reference's Parse writes it -/
def rP (l : List Nat) (i : Nat) : List Nat := (List.range 32).map fun j => if 2 * j + 1 < i then nib (l.getD (2 * j) 0) * 16 + nib (l.getD (2 * j + 1) 0) else if 2 * j < i then nib (l.getD (2 * j) 0) else 0
theorem rP_length (l : List Nat) (i : Nat) : (rP l i).length = 32 := by simp [rP]
theorem rP_zero (l : List Nat) : rP l 0 = zer 32 := by
  refine List.ext_getElem (by simp [rP, zer]) fun j h1 h2 => ?_
  simp only [rP, zer, List.getElem_map, List.getElem_replicate]
  simp
theorem rP_full (l : List Nat) : rP l 64 = unhex l := by
  refine List.ext_getElem (by simp [rP, unhex]) fun j h1 h2 => ?_
  have hj : j < 32 := by simpa [rP] using h1
  simp only [rP, unhex, List.getElem_map, List.getElem_range]
  rw [if_pos (by omega)]
theorem rP_at (l : List Nat) (i : Nat) (h : i < 64) : (rP l i).getD (i / 2) 0 = if i % 2 = 1 then nib (l.getD (i - 1) 0) else 0 := by
  have hj : i / 2 < 32 := by omega
  simp only [rP, List.getD_eq_getElem?_getD, List.getElem?_map, List.getElem?_range hj, Option.map_some, Option.getD_some]
  rw [if_neg (by omega)]
  by_cases hp : i % 2 = 1
  · rw [if_pos (by omega), if_pos hp, show 2 * (i / 2) = i - 1 by omega]
  · rw [if_neg (by omega), if_neg hp]
theorem rP_lt (l : List Nat) (i : Nat) (h : i < 64) : (rP l i).getD (i / 2) 0 < 16 := by
  rw [rP_at l i h]
  split
  · exact nib_lt _
  · omega
theorem rP_set (l : List Nat) (i : Nat) (h : i < 64) : (rP l i).set (i / 2) ((rP l i).getD (i / 2) 0 * 16 + nib (l.getD i 0)) = rP l (i + 1) := by
  rw [rP_at l i h]
  refine List.ext_getElem (by simp [rP]) fun j h1 h2 => ?_
  have hj : j < 32 := by simpa [rP] using h2
  rw [List.getElem_set]
  simp only [rP, List.getElem_map, List.getElem_range]
  by_cases e : i / 2 = j
  · rw [if_pos e]
    by_cases hp : i % 2 = 1
    · rw [if_pos hp, if_pos (by omega), show 2 * j = i - 1 by omega, show i - 1 + 1 = i by omega]
    · rw [if_neg hp, if_neg (by omega), if_pos (by omega), show 2 * j = i by omega]; simp
  · rw [if_neg e]
    by_cases h3 : 2 * j + 1 < i
    · rw [if_pos h3, if_pos (by omega)]
    · by_cases h4 : 2 * j < i
      · exact absurd (by omega) e
      · have h5 : ¬ 2 * j + 1 < i + 1 := by omega
        have h6 : ¬ 2 * j < i + 1 := by omega
        simp only [h3, h4, h5, h6, if_false]
theorem built24 : (Tryd.prog.built 24 []).getD #[] = u8s (zer 32) := by kernel_rfl
theorem nib_pairs (l : List Nat) : ((List.range 32).all fun i => isNib (l.getD (2 * i) 0) && isNib (l.getD (2 * i + 1) 0)) = true ↔ ∀ i, i < 64 → isNib (l.getD i 0) = true := by
  rw [List.all_eq_true]
  constructor
  · intro h i hi
    have := h (i / 2) (List.mem_range.2 (by omega))
    rw [Bool.and_eq_true] at this
    rcases Nat.mod_two_eq_zero_or_one i with e | e
    · rw [show 2 * (i / 2) = i by omega] at this; exact this.1
    · rw [show 2 * (i / 2) + 1 = i by omega] at this; exact this.2
  · intro h i hi
    have := List.mem_range.1 hi
    rw [h (2 * i) (by omega), h (2 * i + 1) (by omega)]; rfl
attribute [local go_sem ↓] st24 ld24
set_option maxRecDepth 100000 in
set_option maxHeartbeats 1000000 in
theorem rparse_any (s : ByteArray) (hs : s.size ≤ 9223372036854775807) (w : World) :
    Calls Tryd.prog 35 #[.string s] w fun e w' => e = .returned (.tuple #[.agg (u8s (parseL (bl s)).1), .int .i64 ((parseL (bl s)).2 : Nat)]) ∧ Below w.heap.size w w' := by
  have hbl := bl_length s
  by_cases h1 : s.size < 64
  · have hp : parseL (bl s) = (zer 32, 4) := by rw [parseL, if_pos (by omega)]
    rw [hp]
    have HP := Lib.hid (And.intro hp hbl); clear hp hbl
    go_enter Tryd.func35, Tryd.ntmps35
    go_wp2_with (first
      | (refine wpList_load_row rfl 24 (.tmp 4) rfl (w.heap.size + 1) rfl 24 (u8s (zer 32)) (0, 0) _ (Blk.new1 _ _ _ _) Tryd.underlying24 rfl (size24 _ rfl) ?_)
      | (refine wpList_store_row rfl 24 (.tmp 2) (.tmp 11) rfl w.heap.size (u8s (zer 32)) rfl rfl 24 (u8s (zer 32)) ((Blk.new _ _ _).alloc _) (size24 _ rfl) rfl (u8s_one _) ?_))
    exact bodyPost_ret (v := .tuple #[.agg (u8s (zer 32)), .int .i64 4]) (results_cell_row2 (p := 2) (u := 3) rfl _ _ w.heap.size 24 _ (0, 0) _ rfl (((Blk.new _ _ _).alloc _).setRow _) Tryd.underlying24 rfl (size24 _ rfl)) rfl
      ⟨rfl, below_setRow' (((Below.refl _ _).alloc (Nat.le_refl _) _).alloc (by simp) _) (Nat.le_refl _) _⟩
  · by_cases h2 : 64 < s.size
    · have hp : parseL (bl s) = (zer 32, 5) := by rw [parseL, if_neg (by omega), if_pos (by omega)]
      rw [hp]
      have HP := Lib.hid (And.intro hp hbl); clear hp hbl
      go_enter Tryd.func35, Tryd.ntmps35
      go_wp2_with (first
        | (refine wpList_load_row rfl 24 (.tmp 4) rfl (w.heap.size + 1) rfl 24 (u8s (zer 32)) (0, 0) _ (Blk.new1 _ _ _ _) Tryd.underlying24 rfl (size24 _ rfl) ?_)
        | (refine wpList_store_row rfl 24 (.tmp 2) (.tmp 15) rfl w.heap.size (u8s (zer 32)) rfl rfl 24 (u8s (zer 32)) ((Blk.new _ _ _).alloc _) (size24 _ rfl) rfl (u8s_one _) ?_))
      exact bodyPost_ret (v := .tuple #[.agg (u8s (zer 32)), .int .i64 5]) (results_cell_row2 (p := 2) (u := 3) rfl _ _ w.heap.size 24 _ (0, 0) _ rfl (((Blk.new _ _ _).alloc _).setRow _) Tryd.underlying24 rfl (size24 _ rfl)) rfl
        ⟨rfl, below_setRow' (((Below.refl _ _).alloc (Nat.le_refl _) _).alloc (by simp) _) (Nat.le_refl _) _⟩
    · have hsz : s.size = 64 := by omega
      have hp : parseL (bl s) = if (List.range 32).all (fun i => isNib ((bl s).getD (2 * i) 0) && isNib ((bl s).getD (2 * i + 1) 0)) then (unhex (bl s), 0) else (zer 32, 3) := by
        rw [parseL, if_neg (by omega), if_neg (by omega)]
      have HP := Lib.hid (And.intro hp (And.intro hbl hsz)); clear hp hbl hsz
      go_enter Tryd.func35, Tryd.ntmps35
      go_wp2_with fail
      go_loopg [5] 64 (fun k i wr => ∃ t : Nat, t + k = 64 ∧ i = .int .i64 t ∧ (∀ j, j < t → isNib ((bl s).getD j 0) = true) ∧
        Blk wr w.heap.size 24 (u8s (zer 32)) ∧ Blk wr (w.heap.size + 1) 24 (u8s (rP (bl s) t)) ∧ Below w.heap.size w wr)
      case atStart => exact ⟨0, rfl, rfl, fun j hj => by omega, (Blk.new _ _ _).alloc _, by rw [rP_zero]; exact Blk.new1 _ _ _ _, ((Below.refl _ _).alloc (Nat.le_refl _) _).alloc (by simp) _⟩
      case round =>
        obtain ⟨t, htk, rfl, hall, K1, K2, B0⟩ := hrel
        by_cases ht : t < 64
        · have hsz := HP.out.2.2
          have x1 := str_index s t (by omega)
          have hset := rP_set (bl s) t ht
          have l1 := bl_bytes s t
          have hy := rP_lt (bl s) t ht
          have c := K2.u8 (i := t / 2) (by rw [rP_length]; omega)
          have f := K2.frozen (t / 2)
          generalize hc1 : (bl s).getD t 0 = c1 at *
          generalize (rP (bl s) t).getD (t / 2) 0 = y at *
          have ways : (48 ≤ c1 ∧ c1 ≤ 57) ∨ (57 < c1 ∧ 97 ≤ c1 ∧ c1 ≤ 102) ∨ isNib c1 = false := by
            unfold isNib
            by_cases a : (48 ≤ c1 ∧ c1 ≤ 57) ∨ (97 ≤ c1 ∧ c1 ≤ 102)
            · omega
            · right; right; simpa using a
          have HE := Lib.hid (And.intro hall (And.intro K1 (And.intro K2 (And.intro B0 (And.intro hset (And.intro hc1 htk)))))); clear hall K1 K2 B0 hset hc1 hsz htk
          rcases ways with ⟨a1, a2⟩ | ⟨a0, a1, a2⟩ | a3
          · have hn : nib c1 = c1 - 48 := by unfold nib; rw [if_pos ⟨a1, a2⟩]
            have hN : isNib c1 = true := by unfold isNib; simp; omega
            have HN := Lib.hid (And.intro hn hN); clear hn hN
            go_wp2_with fail
            go_roundg (gk - 1)
            case measure => have := HE.out.2.2.2.2.2.2; omega
            case rel =>
              obtain ⟨hall, K1, K2, B0, hset, hc1, htk⟩ := HE.out
              refine ⟨t + 1, by omega, by go_num, fun j hj => ?_, K1.far (by simp) _, ?_, B0.setCell (by simp) _⟩
              · rcases Nat.lt_or_ge j t with h | h
                · exact hall j h
                · obtain rfl : j = t := by omega
                  rw [hc1]; exact HN.out.2
              · rw [HN.out.1] at hset
                have ez : (y : Int) * 16 + ((c1 : Int) - 48) = ((y * 16 + (c1 - 48) : Nat) : Int) := by omega
                rw [ez]; exact K2.set8 _ _ hset
          · have hn : nib c1 = c1 - 87 := by unfold nib; rw [if_neg (by omega), if_pos ⟨a1, a2⟩]
            have hN : isNib c1 = true := by unfold isNib; simp; omega
            have HN := Lib.hid (And.intro hn hN); clear hn hN
            go_wp2_with fail
            go_roundg (gk - 1)
            case measure => have := HE.out.2.2.2.2.2.2; omega
            case rel =>
              obtain ⟨hall, K1, K2, B0, hset, hc1, htk⟩ := HE.out
              refine ⟨t + 1, by omega, by go_num, fun j hj => ?_, K1.far (by simp) _, ?_, B0.setCell (by simp) _⟩
              · rcases Nat.lt_or_ge j t with h | h
                · exact hall j h
                · obtain rfl : j = t := by omega
                  rw [hc1]; exact HN.out.2
              · rw [HN.out.1] at hset
                have ez : (y : Int) * 16 + ((c1 : Int) - 97 + 10) = ((y * 16 + (c1 - 87) : Nat) : Int) := by omega
                rw [ez]; exact K2.set8 _ _ hset
          · have cs : (c1 < 48) ∨ (57 < c1 ∧ c1 < 97) ∨ (102 < c1) := by
              unfold isNib at a3
              simp at a3
              omega
            have HN := Lib.hid a3; clear a3
            have hend : (parseL (bl s)).1 = zer 32 ∧ (parseL (bl s)).2 = 3 := by
              have hno : ((List.range 32).all fun i => isNib ((bl s).getD (2 * i) 0) && isNib ((bl s).getD (2 * i + 1) 0)) = false := by
                rw [Bool.eq_false_iff]
                intro h
                have := (nib_pairs (bl s)).1 h t ht
                rw [HE.out.2.2.2.2.2.1, HN.out] at this
                cases this
              rw [HP.out.1, hno]; exact ⟨rfl, rfl⟩
            have HEND := Lib.hid hend; clear hend
            rcases cs with b1 | ⟨b1, b2⟩ | b1
            all_goals
              go_wp2_with (first
                | (refine wpList_build rfl 24 _ rfl (by kernel_rfl) ?_)
                | (refine wpList_store_row rfl 24 (.tmp 2) (.tmp 40) rfl w.heap.size (u8s (zer 32)) rfl ?hy 24 (u8s (zer 32)) HE.out.2.1 (size24 _ rfl) rfl (u8s_one _) ?_))
              case hy => first | exact built24 | exact congrArg Value.agg built24
              obtain ⟨hall, K1, K2, B0, hset, hc1, htk⟩ := HE.out
              refine bodyPost_ret (v := .tuple #[.agg (u8s (zer 32)), .int .i64 3]) (results_cell_row2 (p := 2) (u := 3) rfl _ _ w.heap.size 24 _ (0, 0) _ rfl (K1.setRow _) Tryd.underlying24 rfl (size24 _ rfl)) rfl
                ⟨?_, below_setRow' B0 (Nat.le_refl _) _⟩
              rw [HEND.out.1, HEND.out.2]; rfl
        · obtain rfl : t = 64 := by omega
          rw [rP_full] at K2
          have hl32 := unhex_length (bl s)
          have HL := Lib.hid hl32; clear hl32
          have HE := Lib.hid (And.intro hall (And.intro K1 (And.intro K2 B0))); clear hall K1 K2 B0 htk ht
          go_wp2_with (first
            | (refine wpList_load_row rfl 24 (.tmp 4) rfl (w.heap.size + 1) rfl 24 (u8s (unhex (bl s))) (0, 0) _ HE.out.2.2.1 Tryd.underlying24 rfl (size24 _ HL.out) ?_)
            | (refine wpList_store_row rfl 24 (.tmp 2) (.tmp 51) rfl w.heap.size (u8s (unhex (bl s))) rfl rfl 24 (u8s (zer 32)) HE.out.2.1 (size24 _ HL.out) (by rw [u8s_size, u8s_size, HL.out]; rfl) (u8s_one _) ?_))
          obtain ⟨hall, K1, K2, B0⟩ := HE.out
          refine bodyPost_ret (v := .tuple #[.agg (u8s (unhex (bl s))), .int .i64 0]) (results_cell_row2 (p := 2) (u := 3) rfl _ _ w.heap.size 24 _ (0, 0) _ rfl (K1.setRow _) Tryd.underlying24 rfl (size24 _ HL.out)) rfl
              ⟨?_, below_setRow' B0 (Nat.le_refl _) _⟩
          have hyes : ((List.range 32).all fun i => isNib ((bl s).getD (2 * i) 0) && isNib ((bl s).getD (2 * i + 1) 0)) = true := (nib_pairs (bl s)).2 hall
          rw [HP.out.1, hyes]; rfl
end Go.Proofs.YtediocpdpghbfaaDoor
