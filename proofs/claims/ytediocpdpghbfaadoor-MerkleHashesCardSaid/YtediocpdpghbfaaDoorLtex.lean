/- The law of Text: the walk. -/
import Derived.Test.YtediocpdpghbfaaDoorRpar
import Derived.Test.YtediocpdpghbfaaDoorHexp
set_option linter.unusedSimpArgs false
set_option linter.unusedVariables false
namespace Go.Proofs.YtediocpdpghbfaaDoor
open Go Go.RowKit

attribute [local go_sem ↓] ld24 ld25 st24 st25
theorem load24_run {w : World} {S t : Nat} {st : List Nat} (h : Blk w S t (u8s st)) (hl : st.length = 32) :
    (loadAgg 24 (.pointer (some ⟨S, 0, none⟩))).run Tryd.prog w = .ok (.agg (u8s st)) w := by
  have := loadAgg_run (P := Tryd.prog) (w := w) (ty := 24) (g := S) (off := 0) (u8s st).toList Tryd.underlying24 rfl (by rw [Array.length_toList]; exact size24 st hl) (fun j v hv => by
    rw [Nat.zero_add, h.cell]; simpa using hv)
  simpa using this
theorem at_new {w W : World} (h : At w W) (o : Obj) : At w (W.alloc o) := ⟨h.t0, h.b.alloc h.b.size o⟩
theorem at_row {w W : World} (h : At w W) {g : Nat} (hg : w.heap.size ≤ g) (cs : Array Value) : At w (W.setRow g cs) := ⟨h.t0, below_setRow' h.b hg cs⟩
/-- a variable that was just made is filled: what is known of the world behind -/
theorem wpList_fill {P : Program} {ops : Array Oper} {Q : Exit → Act → World → Prop} {rest : List Oper} {o : Oper} {a : Act} {w : World} {cs0 : Array Value} {t : TypeId} (hgd : o.guard = none) (ty : TypeId) (p x : Operand) (ho : o.op = .store ty p x)
    (cs : Array Value) (hp : a.eval p = .pointer (some ⟨w.heap.size, 0, none⟩)) (hx : a.eval x = .agg cs) (hi : (P.info? ty).map (·.size) = some cs.size) (hs : cs0.size = cs.size) (h1 : cs.all (·.oneCell') = true)
    (h : ∀ W', Blk W' w.heap.size t cs → Below w.heap.size w W' → wpList P ops Q rest (a.put o.dst undef) W') : wpList P ops Q (o :: rest) a (w.alloc (.cells cs0 t)) :=
  wpList_store_row hgd ty p x ho w.heap.size cs hp hx t cs0 (Blk.new _ _ _) hi hs h1 (h _ ((Blk.new _ _ _).setRow _) (below_setRow' ((Below.refl _ _).alloc (Nat.le_refl _) _) (Nat.le_refl _) _))
set_option maxRecDepth 100000 in
set_option maxHeartbeats 2000000 in
theorem law_text (w : World) (hT : Tabs w) (d : List Nat) (hd : d.length = 32) (hB : Bytes d) (s : ByteArray) (hs : s.size ≤ 9223372036854775807) :
    Calls Tryd.prog 10 #[.agg (u8s d), .string s] w fun e w' => e = .returned (.bool true) ∧ Below w.heap.size w w' := by
  have two := hT.two
  have HT := Lib.hid hT
  clear hT
  have hp1 := parse_hex d hd hB
  have hb1 := bl_strOf (hexL d) (hexL_bytes d hB)
  have hz1 : (strOf (hexL d)).size ≤ 9223372036854775807 := by rw [strOf_size, hexL_length]; omega
  have HS := Lib.hid (fun W => string_any W d hd hB)
  have HR := Lib.hid (fun W => rtext_any W d hd hB)
  have HP := Lib.hid (fun W => parse_any (strOf (hexL d)) hz1 W)
  rw [hb1, hp1] at HP
  clear hp1 hb1 hz1
  simp only at HP
  generalize strOf (hexL d) = S at *
  have hSS : (S.toList == S.toList) = true := by simp
  have HQ := Lib.hid (fun W => parse_any s hs W)
  have HV := Lib.hid (fun W => rparse_any s hs W)
  have hr1 := parseL_length (bl s)
  have HU := Lib.hid (fun W => string_any W (parseL (bl s)).1 (parseL_length _) (parseL_bytes _))
  have hhex := hex_parse (bl s)
  generalize (parseL (bl s)).1 = r at *
  generalize (parseL (bl s)).2 = k at *
  have HX := Lib.hid hhex
  clear hhex
  have eqd := fun W => run_equalIn_dig W d d hd hd
  have hdec : decide (d = d) = true := by simp
  have E0 := Blk.new w 24 (u8s d)
  have B0 : At w (w.alloc (.cells (u8s d) 24)) := ⟨HT.out, (Below.refl _ _).alloc (Nat.le_refl _) _⟩
  obtain ⟨g, hg⟩ : ∃ g, w.heap.size = g := ⟨_, rfl⟩
  have l0 := load24_run E0 hd
  rw [hg] at E0 l0
  have HG := Lib.hid hg
  have H1 := Lib.hid (And.intro E0 B0)
  clear E0 B0
  go_enter Tryd.func10, Tryd.ntmps10
  go_wp2_with fail
  refine (HS.out _).mono ?_
  rintro e w2 ⟨rfl, B2⟩
  have H2 := Lib.hid (And.intro (H1.out.1.below B2 H1.out.1.lt) (H1.out.2.step B2))
  clear B2 l0
  go_wp2_with fail
  refine (HP.out _).mono ?_
  rintro e w3 ⟨rfl, B3⟩
  have H3 := Lib.hid (And.intro (H2.out.1.below B3 H2.out.1.lt) (H2.out.2.step B3))
  clear B3
  go_wp2_with (refine wpList_fill rfl 25 (.tmp 6) (.tmp 17) rfl (u8s d) rfl rfl (size25 _ hd) (by rw [u8s_size, hd]; rfl) (u8s_one _) ?_; intro w4 E4 B4; have a4 := load24_run (H3.out.1.below B4 H3.out.1.lt) hd; have H4 := Lib.hid (And.intro E4 (And.intro (H3.out.1.below B4 H3.out.1.lt) (And.intro (H3.out.2.step B4) (H3.out.2.le)))); clear E4 B4)
  refine (HR.out _).mono ?_
  rintro e w5 ⟨rfl, B5⟩
  clear a4
  generalize w3.heap.size = g3 at *
  have a5 := load24_run (H4.out.2.1.below B5 H4.out.2.1.lt) hd
  have b5 := load25_run (H4.out.1.below B5 H4.out.1.lt) hd
  have H5 := Lib.hid (H4.out.2.2.1.step B5)
  clear B5
  by_cases hbig : 200 < s.size
  · go_wp2_with fail
    refine (known_any _ H5.out.t).mono ?_
    rintro e w6 ⟨rfl, B6⟩
    have H6 := Lib.hid (H5.out.step B6)
    clear B6
    go_wp2_with fail
    go_ret
    exact ⟨rfl, HG.out ▸ H6.out.b⟩
  · have hsm : s.size ≤ 200 := by omega
    clear hbig
    go_wp2_with fail
    clear a5 b5 eqd hdec hSS
    refine (HQ.out _).mono ?_
    rintro e w6 ⟨rfl, B6⟩
    have H6 := Lib.hid (H5.out.step B6)
    clear B6
    go_wp2_with (refine wpList_fill rfl 25 (.tmp 8) (.tmp 39) rfl (u8s r) rfl rfl (size25 _ hr1) (by rw [u8s_size, hr1]; rfl) (u8s_one _) ?_; intro w7 E7 B7; have H7 := Lib.hid (And.intro E7 (H6.out.step B7)); clear E7 B7)
    refine (HV.out _).mono ?_
    rintro e w8 ⟨rfl, B8⟩
    have H8 := Lib.hid (And.intro (H7.out.1.below B8 H7.out.1.lt) (H7.out.2.step B8))
    clear B8
    by_cases hk : k = 0
    · obtain rfl := hk
      have hrs : strOf (hexL r) = s := by rw [HX.out rfl, strOf_bl]
      rw [hrs] at HU
      have hss : (s.toList == s.toList) = true := by simp
      clear hrs
      go_wp2_with (refine wpList_fill rfl 24 (.tmp 10) (.tmp 44) rfl (u8s r) rfl rfl (size24 _ hr1) (by rw [u8s_size, hr1]; rfl) (u8s_one _) ?_; intro w9 E9 B9; have a9 := load25_run (H8.out.1.below B9 H8.out.1.lt) hr1; have b9 := load24_run E9 hr1; have H9 := Lib.hid (And.intro (H8.out.1.below B9 H8.out.1.lt) (H8.out.2.step B9)); have eqr := fun W => run_equalIn_dig W r r hr1 hr1; have hdecr : decide (r = r) = true := by simp)
      refine (HU.out _).mono ?_
      rintro e w10 ⟨rfl, B10⟩
      have H10 := Lib.hid (H9.out.2.step B10)
      clear B10
      go_wp2_with fail
      refine (known_any _ H10.out.t).mono ?_
      rintro e w11 ⟨rfl, B11⟩
      have H11 := Lib.hid (H10.out.step B11)
      clear B11
      go_wp2_with fail
      go_ret
      exact ⟨rfl, HG.out ▸ H11.out.b⟩
    · have tk : ((k : Int) != 0) = true := by rw [bne_iff_ne]; omega
      clear hk
      go_wp2_with (refine wpList_fill rfl 24 (.tmp 10) (.tmp 44) rfl (u8s r) rfl rfl (size24 _ hr1) (by rw [u8s_size, hr1]; rfl) (u8s_one _) ?_; intro w9 E9 B9; have a9 := load25_run (H8.out.1.below B9 H8.out.1.lt) hr1; have b9 := load24_run E9 hr1; have H9 := Lib.hid (And.intro (H8.out.1.below B9 H8.out.1.lt) (H8.out.2.step B9)); have eqr := fun W => run_equalIn_dig W r r hr1 hr1; have hdecr : decide (r = r) = true := by simp)
      refine (known_any _ H9.out.2.t).mono ?_
      rintro e w11 ⟨rfl, B11⟩
      have H11 := Lib.hid (H9.out.2.step B11)
      clear B11
      go_wp2_with fail
      go_ret
      exact ⟨rfl, HG.out ▸ H11.out.b⟩
end Go.Proofs.YtediocpdpghbfaaDoor
