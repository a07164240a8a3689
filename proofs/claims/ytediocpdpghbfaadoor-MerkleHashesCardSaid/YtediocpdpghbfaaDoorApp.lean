/- Slices of bytes of the call's own, appended to; the reference's Pad. -/
import Derived.Test.YtediocpdpghbfaaDoorKnow
import Derived.Test.YtediocpdpghbfaaDoorMake
import Derived.Laws.AppendOwnNone
import Derived.OwnWalk
set_option linter.unusedSimpArgs false
set_option linter.unusedVariables false
namespace Go.Proofs.YtediocpdpghbfaaDoor
open Go Go.RowKit

/-- the slice at address A, of capacity c, holds the bytes b -/
def RW (w : World) (A : Option Addr) (c : Nat) (b : List Nat) : Prop :=
  (A = none → c = 0 ∧ b = []) ∧ ∀ ad, A = some ad → b ≠ [] → ad.spot = none ∧ ad.block < w.heap.size ∧ ∀ j, j < b.length → w.cell? ⟨ad.block, ad.off + j, none⟩ = some (.int .u8 (b.getD j 0 : Nat))
/-- a slice value of the call's own that holds the bytes l -/
def OB (w : World) (base : Nat) (A : Option Addr) (n cap : Nat) (l : List Nat) : Prop := l.length = n ∧ w.ownsRow base 5 1 (.slice A n cap) n (bvals l)

theorem OB.rw {w : World} {base : Nat} {A : Option Addr} {n cap : Nat} {l : List Nat} (h : OB w base A n cap l) : RW w A cap l := by
  obtain ⟨hl, h⟩ := h
  refine ⟨fun hA => ?_, fun ad hA _ => ?_⟩
  · subst hA
    rcases h.2 with ⟨hv, hx⟩ | ⟨g, cap', cur, hv, _⟩
    · injection hv with _ e2 e3
      exact ⟨e3, List.eq_nil_of_length_eq_zero (by omega)⟩
    · cases hv
  · subst hA
    rcases h.2 with ⟨hv, hx⟩ | ⟨g, cap', cur, hv, hb, hg, _⟩
    · cases hv
    · injection hv with e1 e2 e3
      injection e1 with e1
      subst e1
      refine ⟨rfl, ?_, fun j hj => ?_⟩
      · exact (Array.getElem?_eq_some_iff.1 hg).1
      · have := h.cells (g := g) rfl j (.int .u8 (l.getD j 0 : Nat)) (by simp [bvals, List.getElem?_eq_getElem hj, List.getD_eq_getElem?_getD])
        rwa [addr_add] at this
theorem OB.alloc {w : World} {base : Nat} {A : Option Addr} {n cap : Nat} {l : List Nat} (h : OB w base A n cap l) (o : Obj) : OB (w.alloc o) base A n cap l := ⟨h.1, h.2.alloc o⟩
theorem RW.below {w w' : World} {A : Option Addr} {c : Nat} {b : List Nat} (h : RW w A c b) (hb : Below w.heap.size w w') : RW w' A c b :=
  ⟨h.1, fun ad hA hn => ⟨(h.2 ad hA hn).1, Nat.lt_of_lt_of_le (h.2 ad hA hn).2.1 hb.size, fun j hj => (hb.cell (p := ⟨ad.block, ad.off + j, none⟩) (h.2 ad hA hn).2.1).trans ((h.2 ad hA hn).2.2 j hj)⟩⟩
theorem RW.rb {w : World} {A : Option Addr} {c : Nat} {b : List Nat} (h : RW w A c b) {g : Nat} (hg : w.heap.size ≤ g) : RB w g A b := by
  intro hn
  cases A with
  | none => exact absurd (by rw [(h.1 rfl).2]; rfl) hn
  | some ad =>
    obtain ⟨h1, h2, h3⟩ := h.2 ad rfl (fun e => hn (by rw [e]; rfl))
    exact ⟨ad.block, ad.off, by cases ad; simp_all, by omega, h2, h3⟩

theorem OB.below {w w' : World} {base : Nat} {A : Option Addr} {n cap : Nat} {l : List Nat} (h : OB w base A n cap l) (hb : Below w.heap.size w w') : OB w' base A n cap l :=
  ⟨h.1, h.2.kept (row := none) ⟨hb.os, hb.tape, hb.output, hb.size, fun k hk _ => hb.block k hk⟩ (by cases (Value.slice A n cap).ownBlock <;> simp)⟩
theorem OB.drew {w : World} {base : Nat} {A : Option Addr} {n cap : Nat} {l : List Nat} (h : OB w base A n cap l) : OB w.drew base A n cap l := ⟨h.1, h.2⟩
theorem ob_empty (w : World) {base : Nat} (hb : base ≤ w.heap.size) : OB (w.alloc (.cells #[] 5)) base (some ⟨w.heap.size, 0, none⟩) 0 0 [] :=
  ⟨rfl, World.ownsRow_made w #[] 0 hb (by decide) rfl⟩
theorem ob_empty2 (w : World) (o1 o2 : Obj) : OB (((w.alloc o1).alloc o2).alloc (.cells #[] 5)) (w.heap.size + 1 + 1) (some ⟨w.heap.size + 1 + 1, 0, none⟩) 0 0 [] := by
  have h := ob_empty ((w.alloc o1).alloc o2) (base := w.heap.size + 1 + 1) (by simp)
  rw [size1, size1] at h
  exact h
theorem RW.alloc {w : World} {A : Option Addr} {c : Nat} {b : List Nat} (h : RW w A c b) (o : Obj) : RW (w.alloc o) A c b := h.below ((Below.refl _ _).alloc (Nat.le_refl _) _)
/-- append(out, xs...) for bytes -/
theorem wpList_app8 {w : World} {ops : Array Oper} {rest : List Oper} {o : Oper} {a : Act} {Q : Exit → Act → World → Prop} (hgd : o.guard = none) (s x : Operand)
    (ho : o.op = .call { callee := .builtin .append, args := #[s, x], argTypes := #[22, 22] }) (base : Nat) (A : Option Addr) (n cap : Nat) (l : List Nat) (hs : a.eval s = .slice A n cap) (hown : OB w base A n cap l)
    (A2 : Option Addr) (m c2 : Nat) (l2 : List Nat) (hx : a.eval x = .slice A2 m c2) (hl2 : l2.length = m) (hr : RW w A2 c2 l2) (hlen : n + m ≤ 140737488355328) (hbase : base ≤ w.heap.size)
    (h : ∀ A' cap' w', OB w' base A' (n + m) cap' (l ++ l2) → Below base w w' → (A' = none → A = none ∧ m = 0) → wpList Tryd.prog ops Q rest (a.put o.dst (.slice A' (n + m) cap')) w') : wpList Tryd.prog ops Q (o :: rest) a w := by
  obtain ⟨i0, hi0, hz0, hz1, hz2⟩ := info_parts info5
  cases A2 with
  | none =>
    obtain ⟨rfl, rfl⟩ := hr.1 rfl
    obtain rfl : m = 0 := by simpa using hl2.symm
    refine wpList_append_own_none hgd s x 22 ho base 5 i0 1 Tryd.underlying22 hi0 (.slice A n cap) n (bvals l) hs hown.2 hx ?_
    have := h A cap w (by simpa using hown) (Below.refl _ _) (fun e => ⟨e, rfl⟩)
    simpa using this
  | some ad =>
    refine wpList_append_own _ hgd s x 22 ho base 5 i0 (.int .u8 0) 1 1 Tryd.underlying22 hi0 hz0 hz1 hz2 rfl (by decide) (.slice A n cap) n (bvals l) hs hown.2 ad m c2 (bvals l2) hx (by rw [bvals_length, hl2]; omega) ?_ ?_
      (by unfold maxLen; omega) (by omega) hbase ?_
    · intro j u hj
      have hjl : j < l2.length := by have := (List.getElem?_eq_some_iff.1 hj).1; simpa [bvals] using this
      obtain ⟨h1, h2, h3⟩ := hr.2 ad rfl (fun e => by rw [e] at hjl; simp at hjl)
      obtain ⟨ab, ao, asp⟩ := ad
      simp only at h1 h2 h3
      subst h1
      rw [addr_add, h3 j hjl, ← hj]
      simp [bvals, List.getElem?_eq_getElem hjl, List.getD_eq_getElem?_getD]
    · intro u hu; simp only [bvals, List.mem_map] at hu; obtain ⟨x, _, rfl⟩ := hu; rfl
    · intro v' w' hown' hg hnil
      obtain ⟨A', cap', rfl⟩ : ∃ A' cap', v' = .slice A' (n + m) cap' := by
        rcases hown'.2 with ⟨rfl, hx⟩ | ⟨g, cap, cur, rfl, _⟩
        · exact ⟨none, 0, by rw [hx]⟩
        · exact ⟨_, cap, rfl⟩
      refine h A' cap' w' ⟨by rw [List.length_append, hown.1, hl2], by rw [bvals_append]; exact hown'⟩ ((Below.refl _ _).grown hg hbase (fun k hk => (hown.2.lt k hk).1)) (fun hA => ?_)
      subst hA
      rcases hown'.2 with ⟨hv, _⟩ | ⟨g, cap, cur, hv, _⟩
      · have := hnil.1 hv
        injection this.1 with e1
        exact ⟨e1, this.2⟩
      · cases hv
theorem one_rw (w : World) (x : Nat) : RW (w.alloc (.cells #[.int .u8 (x : Int)] 5)) (some ⟨w.heap.size, 0, none⟩) 1 [x] := by
  refine ⟨fun h => (Option.some_ne_none _ h).elim, fun ad h _ => ?_⟩
  injection h with h
  subst h
  refine ⟨rfl, by simp, fun j hj => ?_⟩
  obtain rfl : j = 0 := by simpa using hj
  exact (Blk.new w 5 #[Value.int .u8 (x : Int)]).cell (0 + 0)
theorem ob_one (w : World) (x : Nat) : OB (w.alloc (.cells #[.int .u8 (x : Int)] 5)) w.heap.size (some ⟨w.heap.size, 0, none⟩) 1 1 [x] :=
  ⟨rfl, by
    have := Blk.new w 5 #[Value.int .u8 (x : Int)]
    exact ⟨rfl, .inr ⟨w.heap.size, 1, _, rfl, Nat.le_refl _, this, Nat.le_refl _, by decide, rfl, rfl⟩⟩⟩

set_option maxRecDepth 100000 in
theorem rpad_any (n : Nat) (hn : n ≤ 72057594037927936) (w : World) :
    Calls Tryd.prog 30 #[.int .i64 n] w fun e w' => ∃ A cap, e = .returned (.slice A (padL n).length cap) ∧ OB w' w.heap.size A (padL n).length cap (padL n) ∧ Below w.heap.size w w' := by
  have hps := padSize_pos n
  obtain ⟨sz, hsz⟩ : ∃ sz, padSize n = sz := ⟨_, rfl⟩
  rw [hsz] at hps
  have hdef : sz = 64 - (n + 8) % 64 := by rw [← hsz]; rfl
  have HS := Lib.hid (And.intro hsz hdef); clear hsz hdef
  go_enter Tryd.func30, Tryd.ntmps30
  go_wp2_with fail
  go_loopg [3] (sz - 1) (fun f v wr => ∃ (q : Nat) (A : Option Addr) (cap : Nat), q + f = sz ∧ 1 ≤ q ∧ v = .slice A q cap ∧ OB wr w.heap.size A q cap (128 :: List.replicate (q - 1) 0) ∧ Below w.heap.size w wr)
  case atStart => exact ⟨1, _, 1, by omega, Nat.le_refl _, rfl, ob_one w 128, (Below.refl _ _).alloc (Nat.le_refl _) _⟩
  case round =>
    obtain ⟨q, A, cap, hqf, hq1, rfl, O, B0⟩ := hrel
    by_cases hq : q < sz
    · have t : (((n : Int) + q + 8) % 64 != 0) = true := by rw [bne_iff_ne]; have := HS.out.2; omega
      have HE := Lib.hid (And.intro hqf (And.intro O B0)); clear hqf O B0
      go_wp2_with (at_builtin; refine wpList_app8 rfl (.tmp 14) (.tmp 15) rfl w.heap.size A q cap (128 :: List.replicate (q - 1) 0) rfl (HE.out.2.1.alloc _) (some ⟨wr.heap.size, 0, none⟩) 1 1 [0] rfl rfl (one_rw wr 0) (by omega) (by have := HE.out.2.2.size; simp; omega) ?_; intro A' cap' w1 O1 B1 _; have H1 := Lib.hid (And.intro O1 B1); clear O1 B1)
      go_roundg (gk - 1)
      case measure => have := HE.out.1; omega
      case rel =>
        obtain ⟨hqf, O, B0⟩ := HE.out
        obtain ⟨O1, B1⟩ := H1.out
        refine ⟨q + 1, A', cap', by omega, by omega, rfl, ?_, (B0.alloc B0.size _).trans B1⟩
        have e : 128 :: List.replicate (q - 1) 0 ++ [0] = 128 :: List.replicate (q + 1 - 1) 0 := by
          obtain ⟨k, rfl⟩ : ∃ k, q = k + 1 := ⟨q - 1, by omega⟩
          simp [List.replicate_succ']
        rw [← e]; exact O1
    · obtain rfl : q = sz := by omega
      have t : (((n : Int) + q + 8) % 64 != 0) = false := by rw [bne_eq_false_iff_eq]; have := HS.out.2; omega
      obtain ⟨x, hx⟩ : ∃ x, n * 8 = x := ⟨_, rfl⟩
      have hxI : (n : Int) * 8 = (x : Int) := by omega
      have hx64 : x < 18446744073709551616 := by omega
      have HE := Lib.hid (And.intro O (And.intro B0 hx)); clear hqf O B0 hq hx
      go_wp2_with fail
      go_loopg [3, 5] 8 (fun f v iv wr => ∃ (t : Nat) (A : Option Addr) (cap : Nat), t + f = 8 ∧ iv = .int .i64 (7 - (t : Int)) ∧ v = .slice A (q + t) cap ∧ OB wr w.heap.size A (q + t) cap (128 :: (List.replicate (q - 1) 0 ++ (be8 x).take t)) ∧ Below w.heap.size w wr)
      case atStart => obtain ⟨O, B0, hx⟩ := HE.out; exact ⟨0, A, cap, rfl, rfl, rfl, by simpa using O, B0⟩
      case round =>
        have hxx := HE.out.2.2
        clear HE
        obtain ⟨t, A, cap, htf, rfl, rfl, O, B0⟩ := hrel
        by_cases ht : t < 8
        · have hb : (be8 x)[t]'(by rw [be8_length]; exact ht) = x / 2 ^ (56 - 8 * t) % 256 := by simp [be8]
          have htk : (be8 x).take (t + 1) = (be8 x).take t ++ [x / 2 ^ (56 - 8 * t) % 256] := by rw [List.take_succ_eq_append_getElem (by rw [be8_length]; exact ht), hb]
          have e1 : 8 * (7 - (t : Int)) = ((56 - 8 * t : Nat) : Int) := by omega
          obtain ⟨sh, hsh⟩ : ∃ sh, 56 - 8 * t = sh := ⟨_, rfl⟩
          have hsh63 : sh ≤ 56 := by omega
          rw [hsh] at e1 htk
          have ev : (x : Int) / 2 ^ sh % 256 = ((x / 2 ^ sh % 256 : Nat) : Int) := by rw [Int.natCast_emod, Int.natCast_ediv, Int.natCast_pow]; rfl
          generalize x / 2 ^ sh % 256 = y at *
          have HE := Lib.hid (And.intro htf (And.intro O (And.intro B0 (And.intro htk hxx)))); clear htf O B0 htk hxx hb hsh
          go_wp2_with (at_builtin; refine wpList_app8 rfl (.tmp 24) (.tmp 30) rfl w.heap.size A (q + t) cap (128 :: (List.replicate (q - 1) 0 ++ (be8 x).take t)) rfl (HE.out.2.1.alloc _) (some ⟨wr.heap.size, 0, none⟩) 1 1 [y] rfl rfl (one_rw wr y) (by omega) (by have := HE.out.2.2.1.size; simp; omega) ?_; intro A' cap' w1 O1 B1 _; have H1 := Lib.hid (And.intro O1 B1); clear O1 B1)
          go_roundg (gk - 1)
          case measure => have := HE.out.1; omega
          case rel =>
            obtain ⟨htf, O, B0, htk, hxx⟩ := HE.out
            obtain ⟨O1, B1⟩ := H1.out
            refine ⟨t + 1, A', cap', by omega, by congr 1; omega, rfl, ?_, (B0.alloc B0.size _).trans B1⟩
            rw [htk]
            have e : 128 :: (List.replicate (q - 1) 0 ++ ((be8 x).take t ++ [y])) = (128 :: (List.replicate (q - 1) 0 ++ (be8 x).take t)) ++ [y] := by simp
            rw [e]; exact O1
        · obtain rfl : t = 8 := by omega
          rw [List.take_of_length_le (by rw [be8_length]; omega)] at O
          have HE := Lib.hid (And.intro O (And.intro B0 hxx)); clear htf O B0 hxx ht
          go_wp2_with fail
          go_ret
          obtain ⟨O, B0, hxx⟩ := HE.out
          have hp : 128 :: (List.replicate (q - 1) 0 ++ be8 x) = padL n := by rw [padL, HS.out.1, hxx, Nat.mod_eq_of_lt hx64]
          rw [hp] at O
          have hl : (padL n).length = q + 8 := by rw [padL_length, HS.out.1]
          rw [hl]
          exact ⟨A, cap, rfl, O, B0⟩

attribute [local go_sem ↓] ld30 ld32 ld24 st30 st24
theorem size24 (l : List Nat) (h : l.length = 32) : (Tryd.prog.info? 24).map (·.size) = some (u8s l).size := by
  rw [u8s_size, h]; kernel_rfl
theorem TT_state {w : World} {g : Nat} (h : Blk w g 32 (u32s TT)) : (loadAgg 30 (.pointer (some ⟨g, 64, none⟩))).run Tryd.prog w = .ok (.agg (u32s HH)) w := by
  have := loadAgg_run (P := Tryd.prog) (w := w) (ty := 30) (g := g) (off := 64) (u32s HH).toList Tryd.underlying30 rfl (by kernel_rfl) (fun j v hv => by
    have hj : j < 8 := by have := (List.getElem?_eq_some_iff.1 hv).1; simpa [u32s_size, HH] using this
    rw [h.cell, ← hv]
    have : ∀ j : Fin 8, (u32s TT)[64 + j.val]? = (u32s HH).toList[j.val]? := by
      intro j; rw [u32s_at _ _ (by rw [TT_length]; omega), TT_h j.val j.isLt]
      have := u32s_at HH j.val (by rw [show HH.length = 8 from rfl]; exact j.isLt)
      simpa using this.symm
    exact this ⟨j, hj⟩)
  simpa using this
theorem slice_sub (gl ol k cap lo : Nat) (h : lo + 64 ≤ k) (hc : k ≤ cap) (w : World) :
    (Instr.slice 22 (.slice (some ⟨gl, ol, none⟩) k cap) (some (.int .i64 (lo : Int))) (some (.int .i64 ((lo : Int) + 64))) none).run Tryd.prog w = .ok (.slice (some ⟨gl, ol + lo, none⟩) 64 (cap - lo)) w := by
  have hs : (Tryd.prog.info? 5).map (·.size) = some 1 := by kernel_rfl
  have he : Tryd.prog.elem 22 = 5 := by kernel_rfl
  rw [run_slice_lh w 22 _ k cap (by rw [he]; exact Tryd.underlying22) .i64 .i64 lo (lo + 64) (by omega) (by omega) (by omega)]
  cases hq : Tryd.prog.info? 5 with
  | none => simp [hq] at hs
  | some i =>
    have hi : i.size = 1 := by simpa [hq] using hs
    simp [he, sizeOf, typeInfo, hq, hi, sliced, addr_add]
    refine ⟨fun e => by omega, by omega⟩
theorem sliceAt_sub (gl ol k cap lo : Nat) (h : lo + 64 ≤ k) (hc : k ≤ cap) (w : World) :
    (Instr.sliceAt 22 (.slice (some ⟨gl, ol, none⟩) k cap) (some (.int .i64 (lo : Int))) (some (.int .i64 ((lo : Int) + 64))) none).run Tryd.prog w = .ok (.slice (some ⟨gl, ol + lo, none⟩) 64 (cap - lo)) w := by
  have he : Tryd.prog.elem 22 = 5 := by kernel_rfl
  rw [run_sliceAt_slice w 22 _ _ _ _ (by rw [he]; exact Tryd.underlying22)]
  exact slice_sub gl ol k cap lo h hc w
theorem store30_run {w : World} {S : Nat} {st st' : List Nat} (h : Blk w S 30 (u32s st)) (hl : st.length = 8) (hl' : st'.length = 8) :
    (storeAgg 30 (.pointer (some ⟨S, 0, none⟩)) (.agg (u32s st'))).run Tryd.prog w = .ok () (w.setRow S (u32s st')) := by
  have := storeAgg_run (P := Tryd.prog) (ty := 30) (off := 0) (cur := (u32s st).toList) (u32s st') (by rw [Array.toArray_toList]; exact h) (size30l st' hl') (by rw [u32s_size, hl', Array.length_toList, u32s_size, hl]; omega) (u32s_one _)
  rw [this, List.drop_eq_nil_of_le (by rw [Array.length_toList, u32s_size, u32s_size, hl, hl']; omega), List.take_zero, List.nil_append, List.append_nil, Array.toArray_toList]
theorem load30_run {w : World} {S : Nat} {st : List Nat} (h : Blk w S 30 (u32s st)) (hl : st.length = 8) :
    (loadAgg 30 (.pointer (some ⟨S, 0, none⟩))).run Tryd.prog w = .ok (.agg (u32s st)) w := by
  have := loadAgg_run (P := Tryd.prog) (w := w) (ty := 30) (g := S) (off := 0) (u32s st).toList Tryd.underlying30 rfl (by rw [Array.length_toList]; exact size30l st hl) (fun j v hv => by
    rw [Nat.zero_add, h.cell]; simpa using hv)
  simpa using this
theorem load32_run {w : World} {S : Nat} (h : Blk w S 32 (u32s TT)) : (loadAgg 32 (.pointer (some ⟨S, 0, none⟩))).run Tryd.prog w = .ok (.agg (u32s TT)) w := by
  have := loadAgg_run (P := Tryd.prog) (w := w) (ty := 32) (g := S) (off := 0) (u32s TT).toList Tryd.underlying32 rfl (by rw [Array.length_toList]; exact size32 _ TT_length) (fun j v hv => by
    rw [Nat.zero_add, h.cell]; simpa using hv)
  simpa using this
set_option maxRecDepth 100000 in
/-- the reference's Sum -/
theorem rsum_any (w : World) (b : List Nat) (A : Option Addr) (cap : Nat) (hcap : b.length ≤ cap) (hB : Bytes b) (hr : RW w A cap b) (hlen : b.length ≤ 1000000) :
    Calls Tryd.prog 21 #[.agg (u32s TT), .slice A b.length cap] w fun e w' => e = .returned (.agg (u8s (sha b))) ∧ Below w.heap.size w w' := by
  obtain ⟨n, hn⟩ : ∃ n, b.length = n := ⟨_, rfl⟩
  rw [hn] at hlen hcap ⊢
  have H0 := Lib.hid (And.intro hB (And.intro hr hn)); clear hB hr hn
  obtain ⟨zs, hzs⟩ : ∃ zs, u8s (zer 32) = zs := ⟨_, rfl⟩
  have HZ := Lib.hid hzs; clear hzs
  go_enter Tryd.func21, Tryd.ntmps21
  go_wp2_with (at_builtin; refine wpList_app8 rfl (.tmp 10) (.tmp 11) rfl (w.heap.size + 1 + 1) (some ⟨w.heap.size + 1 + 1, 0, none⟩) 0 0 [] rfl (ob_empty2 _ _ _) A n cap b rfl H0.out.2.2 (((H0.out.2.1.alloc _).alloc _).alloc _) (by omega) (by simp) ?_; intro A1 cap1 w1 O1 B1 _; have H1 := Lib.hid (And.intro O1 (And.intro ((Blk.below (((Blk.new w 32 (u32s TT)).alloc _).alloc _) B1 (by omega))) (And.intro (Blk.below ((Blk.new1 _ _ _ _).alloc _) B1 (by omega)) (Below.trans ((((Below.refl _ _).alloc (Nat.le_refl _) _).alloc (by simp) _).alloc (by simp; omega) _) (B1.mono (by omega)))))); clear O1 B1)
  have O1' := H1.out.1
  rw [Nat.zero_add, List.nil_append] at O1'
  have HO := Lib.hid O1'; clear O1'
  refine (rpad_any n (by omega) w1).mono ?_
  rintro e w2 ⟨A2, cap2, rfl, O2, B2⟩
  have hsz : w.heap.size + 1 < w1.heap.size := H1.out.2.2.1.lt
  have hpl : (padL n).length ≤ 72 := by have := padSize_pos n; rw [padL_length]; omega
  have H2 := Lib.hid (And.intro O2 B2); clear O2 B2
  go_wp2_with (first
    | (at_builtin; refine wpList_app8 rfl (.tmp 12) (.tmp 15) rfl (w.heap.size + 1 + 1) A1 n cap1 b rfl (HO.out.below H2.out.2) A2 (padL n).length cap2 (padL n) rfl rfl H2.out.1.rw (by omega) (Nat.le_trans hsz H2.out.2.size) ?_; intro A3 cap3 w3 O3 B3 hnil3; have HT3 := TT_state ((H1.out.2.1.below H2.out.2 (by omega)).below B3 (by omega)); have H3 := Lib.hid (And.intro O3 (And.intro B3 hnil3)); clear O3 B3 hnil3)
    | (refine wpList_store_row rfl 30 (.tmp 6) (.tmp 18) rfl w3.heap.size (u32s HH) rfl rfl 30 (u32s (List.replicate 8 0)) (Blk.new _ _ _) (size30l _ rfl) rfl (u32s_one _) ?_))
  obtain ⟨O3, B3, hnil3⟩ := H3.out
  have hN : n + (padL n).length = (padded b).length := by rw [padded, List.length_append, H0.out.2.2]
  have hK : (padded b).length % 64 = 0 := by rw [← hN]; exact padL_mod n
  have hLB : Bytes (padded b) := by rw [padded]; exact H0.out.1.append (Bytes.padL _)
  have hsha : sha b = digest (states HH (padded b) ((padded b).length / 64)) := rfl
  have hLp : b ++ padL n = padded b := by rw [padded, H0.out.2.2]
  rw [hLp, hN] at O3
  have hN9 : 1 ≤ (padded b).length := by rw [← hN, padL_length]; omega
  have hNM : (padded b).length ≤ 1000072 := by omega
  rw [hN]
  have hcap3 : (padded b).length ≤ cap3 := by
    rcases O3.2.2 with ⟨hv, hx⟩ | ⟨g, cap', cur, hv, _, _, h, _⟩
    · omega
    · injection hv with _ _ e3; omega
  have F1 := (H1.out.2.1.below H2.out.2 (by omega)).below B3 (by omega)
  have F2 := (H1.out.2.2.1.below H2.out.2 (by omega)).below B3 (by omega)
  have F3 := H1.out.2.2.2.trans ((H2.out.2.mono (by omega)).trans (B3.mono (by omega)))
  have F4 := O3.rw
  have F5 : w.heap.size + 1 < w3.heap.size := F2.lt
  generalize padded b = L at *
  obtain ⟨K, hKK⟩ : ∃ K, L.length = 64 * K := ⟨L.length / 64, by omega⟩
  have hsha' : sha b = digest (states HH L K) := by rw [hsha, hKK, show 64 * K / 64 = K by omega]
  clear hsha
  rw [hKK] at hcap3 hN9 hNM
  rw [hKK]
  have hLne : L ≠ [] := by intro e; rw [e] at hKK; simp at hKK; omega
  have hA3 : ∃ gl ol, A3 = some ⟨gl, ol, none⟩ := by
    cases A3 with
    | none => have := (F4.1 rfl).2; rw [this] at hKK; simp at hKK; omega
    | some ad => obtain ⟨gl, ol, sp⟩ := ad; have := (F4.2 _ rfl hLne).1; simp only at this; subst this; exact ⟨gl, ol, rfl⟩
  obtain ⟨gl, ol, rfl⟩ := hA3
  obtain ⟨_, hgl, hcl⟩ := F4.2 _ rfl hLne
  clear hLne
  simp only at hgl hcl
  clear hN hK hLp F4 O3 B3 hnil3 HT3 H3 HO H2 H1 H0 hpl HZ
  generalize hS : w3.heap.size = S at *
  have HA := Lib.hid (And.intro F1 (And.intro F2 (And.intro F3 (And.intro hcl (And.intro hsha' (And.intro hLB (And.intro hKK hS))))))); clear F1 F2 F3 hcl hsha' hLB hKK hS
  go_loopg [7] K (fun f iv wr => ∃ q : Nat, q + f = K ∧ iv = .int .i64 (64 * q : Nat) ∧ Blk wr w.heap.size 32 (u32s TT) ∧ Blk wr (w.heap.size + 1) 24 (u8s (List.replicate 32 0)) ∧ Blk wr S 30 (u32s (states HH L q)) ∧
    (∀ j, j < L.length → wr.cell? ⟨gl, ol + j, none⟩ = some (.int .u8 (L.getD j 0 : Nat))) ∧ gl < wr.heap.size ∧ Below w.heap.size w wr)
  case atStart =>
    obtain ⟨F1, F2, F3, hcl, hsha, hLB, hKK, hS⟩ := HA.out
    subst hS
    refine ⟨0, by omega, rfl, (F1.alloc _).farRow (by omega) _, (F2.alloc _).farRow (by omega) _, (Blk.new _ _ _).setRow _, fun j hj => ?_, by simp; omega, below_setRow' (F3.alloc (by omega) _) (by omega) _⟩
    exact (World.cell?_of_block (setRow_other _ _ _ _ (by simp; omega))).trans ((World.cell?_alloc_lt _ _ _ hgl).trans (hcl j hj))
  case round =>
    obtain ⟨q, hqf, rfl, E1, E2, E3, hc, hg, B0⟩ := hrel
    have hKK := HA.out.2.2.2.2.2.2.1
    have hLB := HA.out.2.2.2.2.2.1
    have hSB : w.heap.size + 1 < S := F5
    by_cases hq : q < K
    · have l1 := load32_run E1.drew
      have l2 := load30_run E3.drew (states_length rfl L q)
      obtain ⟨lo, hlo⟩ : ∃ lo, 64 * q = lo := ⟨_, rfl⟩
      have hsl := fun W => slice_sub gl ol (64 * K) cap3 lo (by omega) hcap3 W
      have hbk : ∀ j, j < 64 → wr.drew.cell? ⟨gl, ol + lo + j, none⟩ = some (.int .u8 ((blk L q).getD j 0 : Nat)) := fun j hj => by
        have := hc (lo + j) (by omega)
        rw [← Nat.add_assoc] at this
        refine this.trans ?_
        congr 3
        rw [blk, hlo]; simp [List.getD_eq_getElem?_getD, List.getElem?_take, hj]
      have hbl : (blk L q).length = 64 := by rw [blk, List.length_take, List.length_drop]; omega
      have hstep : states HH L (q + 1) = compress KK (states HH L q) (blk L q) := rfl
      have hsw := states_words words_HH L q
      have hsl8 : (states HH L q).length = 8 := states_length rfl L q
      have hbB := hLB.blk q
      have hlo2 : lo ≤ 1000072 := by omega
      rw [hlo]
      generalize states HH L q = st at *
      generalize blk L q = bk at *
      have HB := Lib.hid (And.intro E1 (And.intro E2 (And.intro E3 (And.intro hc (And.intro B0 (And.intro hbk (And.intro hbl (And.intro hstep (And.intro hsw (And.intro hsl8 (And.intro hbB (And.intro hlo hqf)))))))))))); clear E1 E2 E3 hc B0 hbk hbl hstep hsw hsl8 hbB hlo hqf hKK hLB
      have hne : ¬ cap3 = lo := by have := HB.out.2.2.2.2.2.2.2.2.2.2.2.1; omega
      have hsl' := fun W => sliceAt_sub gl ol (64 * K) cap3 lo (by have := HB.out.2.2.2.2.2.2.2.2.2.2.2.1; omega) hcap3 W
      have b0 : 0 ≤ (lo : Int) := by omega
      have b1 : (lo : Int) ≤ (lo : Int) + 64 := by omega
      have b2 : (lo : Int) + 64 ≤ (cap3 : Int) := by have := HB.out.2.2.2.2.2.2.2.2.2.2.2.1; omega
      have b3 : IntKind.i64.wrap ((lo : Int) + 64) = (lo : Int) + 64 := IntWalk.i64_in _ (by omega)
      have tq : decide ((lo : Int) < 64 * (K : Int)) = true := by simp; have := HB.out.2.2.2.2.2.2.2.2.2.2.2.1; omega
      go_wp2_with fail
      go_region_with (go_at_call 24; refine (refcomp_any st bk HB.out.2.2.2.2.2.2.2.2.2.1 HB.out.2.2.2.2.2.2.2.2.1 HB.out.2.2.2.2.2.2.1 HB.out.2.2.2.2.2.2.2.2.2.2.1 wr.drew gl (ol + lo) (cap3 - lo) HB.out.2.2.2.2.2.1).mono ?_; rintro e w4 ⟨rfl, B4⟩; have hst4 := store30_run (st' := compress KK st bk) (HB.out.2.2.1.drew.below B4 HB.out.2.2.1.drew.lt) HB.out.2.2.2.2.2.2.2.2.2.1 (compress_length _ _ _); have HB4 := Lib.hid B4; clear B4)
      all_goals
        go_wp2_with fail
        go_roundg (gk - 1)
        case measure => obtain ⟨_, _, _, _, _, _, _, _, _, _, _, _, hqf⟩ := HB.out; omega
        case rel =>
          obtain ⟨E1, E2, E3, hc, B0, hbk, hbl, hstep, hsw, hsl8, hbB, hlo, hqf⟩ := HB.out
          have B4 := HB4.out
          have sz4 : wr.heap.size ≤ w4.heap.size := B4.size
          have g1 := E1.lt
          have g2 := E2.lt
          have g3 := E3.lt
          refine ⟨q + 1, by omega, by congr 1; omega, (E1.drew.below B4 g1).farRow (by omega) _, (E2.drew.below B4 g2).farRow (by omega) _, ?_, fun j hj => ?_, by simp; omega, below_setRow' ((B0.drew).trans (B4.mono (by have := B0.size; simpa using this))) (by omega) _⟩
          · rw [hstep]; exact (E3.drew.below B4 g3).setRow _
          · exact (World.cell?_of_block (setRow_other _ _ _ _ (by simp; omega))).trans ((B4.cell (p := ⟨gl, ol + j, none⟩) hg).trans (hc j hj))
    · obtain rfl : q = K := by omega
      have hsha := HA.out.2.2.2.2.1
      have hl8 : (states HH L q).length = 8 := states_length rfl L q
      have hsw := states_words words_HH L q
      generalize states HH L q = st at *
      have HB := Lib.hid (And.intro E2 (And.intro E3 (And.intro B0 (And.intro hsha hl8)))); clear E1 E2 E3 B0 hsha hl8 hc hqf hKK hLB HA
      have tq : decide (((64 * q : Nat) : Int) < ((64 * q : Nat) : Int)) = false := by simp
      go_wp2_with fail
      have sB : w.heap.size + 1 < wr.heap.size := HB.out.1.lt
      have sS : S < wr.heap.size := HB.out.2.1.lt
      generalize hD : wr.heap.size = D at *
      have HD := Lib.hid hD; clear hD
      go_loopg [9] 32 (fun f iv wi => ∃ i : Nat, i + f = 32 ∧ iv = .int .i64 i ∧ Blk wi (w.heap.size + 1) 24 (u8s (List.replicate 32 0)) ∧ Blk wi S 30 (u32s st) ∧ Blk wi D 24 (u8s (digP st i)) ∧ Below w.heap.size w wi)
      case atStart =>
        obtain ⟨E2, E3, B0, hsha, hl8⟩ := HB.out
        obtain rfl := HD.out
        exact ⟨0, rfl, rfl, E2.alloc _, E3.alloc _, Blk.new _ _ _, B0.alloc (by omega) _⟩
      case round =>
        have hsha := HB.out.2.2.2.1
        have hl8 := HB.out.2.2.2.2
        clear HB HD
        obtain ⟨i, hif, rfl, E2, E3, E4, B0⟩ := hrel
        by_cases hi : i < 32
        · obtain ⟨q4, hq4⟩ : ∃ q4, i / 4 = q4 := ⟨_, rfl⟩
          obtain ⟨r4, hr4⟩ : ∃ r4, i % 4 = r4 := ⟨_, rfl⟩
          have hq8 : q4 < 8 := by omega
          have hr8 : r4 < 4 := by omega
          have c1 := E3.u32 (i := q4) (by omega)
          have c4 := E4.u8 (i := i) (by rw [digP_length _ _ (by omega)]; omega)
          have f4 := E4.frozen i
          have lx := hsw q4
          have hset := digP_set st q4 r4 hq8 hr8
          rw [show 4 * q4 + r4 = i by omega] at hset
          have eq4 : (i : Int) / 4 = (q4 : Int) := by omega
          have er4 : (i : Int) % 4 = (r4 : Int) := by omega
          have b1 : 0 ≤ 24 - 8 * (r4 : Int) := by omega
          generalize st.getD q4 0 = x at *
          generalize (digP st i).getD i 0 = y at *
          have HE := Lib.hid (And.intro E2 (And.intro E3 (And.intro E4 (And.intro B0 (And.intro hif (And.intro hset (And.intro hsha hl8))))))); clear E2 E3 E4 B0 hif hset hsha hl8 hq4 hr4
          go_wp2_with fail
          go_roundg (gk - 1)
          case measure => have := HE.out.2.2.2.2.1; omega
          case rel =>
            obtain ⟨E2, E3, E4, B0, hif, hset, hsha, hl8⟩ := HE.out
            refine ⟨i + 1, by omega, by go_num, E2.far (by simp; omega) _, E3.far (by simp; omega) _, ?_, B0.setCell (by simp; omega) _⟩
            have ez : (x : Int) / 2 ^ (24 - 8 * r4) % 256 = ((x / 2 ^ (24 - 8 * r4) % 256 : Nat) : Int) := by
              rw [Int.natCast_emod, Int.natCast_ediv, Int.natCast_pow]; rfl
            rw [ez]
            exact E4.set8 _ _ hset
        · obtain rfl : i = 32 := by omega
          rw [digP_full] at E4
          have hl32 := digest_length st
          have HE := Lib.hid (And.intro E2 (And.intro E4 (And.intro B0 (And.intro hsha hl32)))); clear E2 E3 E4 B0 hif hsha hl8 hl32 hi
          go_wp2_with (first
            | (refine wpList_load_row rfl 24 (.tmp 8) rfl D rfl 24 (u8s (digest st)) (0, 0) _ HE.out.2.1 Tryd.underlying24 rfl (size24 _ HE.out.2.2.2.2) ?_)
            | (refine wpList_store_row rfl 24 (.tmp 4) (.tmp 49) rfl (w.heap.size + 1) (u8s (digest st)) rfl rfl 24 (u8s (List.replicate 32 0)) HE.out.1 (size24 _ HE.out.2.2.2.2) (by rw [u8s_size, u8s_size, HE.out.2.2.2.2]; rfl) (u8s_one _) ?_))
          obtain ⟨E2, E4, B0, hsha, hl32⟩ := HE.out
          refine bodyPost_ret (v := .agg (u8s (digest st))) (results_cell_row rfl _ _ (w.heap.size + 1) 24 _ (0, 0) _ rfl (E2.setRow _) Tryd.underlying24 rfl (size24 _ hl32)) rfl ⟨?_, below_setRow' B0 (by omega) _⟩
          rw [hsha]
end Go.Proofs.YtediocpdpghbfaaDoor
