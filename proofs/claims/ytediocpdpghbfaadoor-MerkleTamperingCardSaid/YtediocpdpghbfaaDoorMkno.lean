/- Merkle: the examples of the document. -/
import Derived.Test.YtediocpdpghbfaaDoorMerQ
import Derived.Deep.DeepCutAuto
set_option linter.unusedSimpArgs false
set_option linter.unusedVariables false
namespace Go.Proofs.YtediocpdpghbfaaDoor
open Go Go.RowKit

def abc : List (List Nat) := [[97], [98], [99]]
def leftL : List Nat := nodeL (leafL [97]) (leafL [98])
set_option maxRecDepth 100000 in
theorem left_abc : mrootL (abc.take 2) = leftL := by
  rw [mrootL_node _ (by decide), show splitL (abc.take 2).length = 1 by decide, mrootL_one _ (by decide), mrootL_one _ (by decide)]; rfl
theorem right_abc : mrootL (abc.drop 2) = leafL [99] := by
  rw [mrootL_one _ (by decide)]; rfl
theorem split3 : splitL abc.length = 2 := by decide
theorem root_abc : mrootL abc = nodeL leftL (leafL [99]) := by
  rw [mrootL_node abc (by decide), split3, left_abc, right_abc]
theorem prove_one (l : List (List Nat)) (h : l.length ≤ 1) (i : Nat) : proveL l i = [] := proveL_one l i h
theorem prove_abc : proveL abc 2 = [leftL] := by
  rw [proveL_node abc 2 (by decide), split3, if_neg (by omega), left_abc, prove_one (abc.drop 2) (by decide)]; rfl
theorem cons_abc : consL abc 2 = [leafL [99]] := by
  unfold consL
  rw [if_neg (by decide), subL_node abc 2 true (by omega) (by decide), split3, if_pos (by omega), subL_eq (abc.take 2) 2 true (by omega) (by decide), right_abc]; rfl
/-- the world behind the literal -/
def abcW (w : World) : World := ((((w.alloc (.cells #[.int .u8 97] 5)).alloc (.cells #[.int .u8 98] 5)).alloc (.cells #[.int .u8 99] 5)).alloc (.cells #[.slice (some ⟨w.heap.size, 0, none⟩) 1 1, .slice (some ⟨w.heap.size + 1, 0, none⟩) 1 1, .slice (some ⟨w.heap.size + 1 + 1, 0, none⟩) 1 1] 22))
def abcCells (w : World) : Array Value := #[.slice (some ⟨w.heap.size, 0, none⟩) 1 1, .slice (some ⟨w.heap.size + 1, 0, none⟩) 1 1, .slice (some ⟨w.heap.size + 1 + 1, 0, none⟩) 1 1]
/-- a later world in which the three leaves lie -/
structure Abc (w W : World) : Prop where
  at_ : At w W
  e : Blk W (w.heap.size + 1 + 1 + 1) 22 (abcCells w)
  r0 : RW W (some ⟨w.heap.size, 0, none⟩) 1 [97]
  r1 : RW W (some ⟨w.heap.size + 1, 0, none⟩) 1 [98]
  r2 : RW W (some ⟨w.heap.size + 1 + 1, 0, none⟩) 1 [99]
theorem Abc.step {w W W' : World} (h : Abc w W) (b : Below W.heap.size W W') : Abc w W' := ⟨h.at_.step b, h.e.below b h.e.lt, h.r0.below b, h.r1.below b, h.r2.below b⟩
theorem Abc.drew {w W : World} (h : Abc w W) : Abc w W.drew := h.step ((Below.refl _ _).drew)
theorem Abc.new {w W : World} (h : Abc w W) (o : Obj) : Abc w (W.alloc o) := h.step ((Below.refl _ _).alloc (Nat.le_refl _) o)
theorem Abc.pl {w W : World} (h : Abc w W) : PL W (some ⟨w.heap.size + 1 + 1 + 1, 0, none⟩) abc := by
  refine .inr ⟨_, 0, rfl, h.e.lt, fun j hj => ?_⟩
  have hj3 : j < 3 := hj
  rw [Nat.zero_add, h.e.cell]
  have h3 : j = 0 ∨ j = 1 ∨ j = 2 := by omega
  rcases h3 with rfl | rfl | rfl
  · exact ⟨_, 1, rfl, Nat.le_refl _, by decide, Bytes.of_mem (by intro x hx; simp [abc] at hx; omega), h.r0⟩
  · exact ⟨_, 1, rfl, Nat.le_refl _, by decide, Bytes.of_mem (by intro x hx; simp [abc] at hx; omega), h.r1⟩
  · exact ⟨_, 1, rfl, Nat.le_refl _, by decide, Bytes.of_mem (by intro x hx; simp [abc] at hx; omega), h.r2⟩
theorem Abc.c0 {w W : World} (h : Abc w W) : W.cell? ⟨w.heap.size + 1 + 1 + 1, 0, none⟩ = some (.slice (some ⟨w.heap.size, 0, none⟩) 1 1) := h.e.cell 0
theorem Abc.c1 {w W : World} (h : Abc w W) : W.cell? ⟨w.heap.size + 1 + 1 + 1, 1, none⟩ = some (.slice (some ⟨w.heap.size + 1, 0, none⟩) 1 1) := h.e.cell 1
theorem Abc.c2 {w W : World} (h : Abc w W) : W.cell? ⟨w.heap.size + 1 + 1 + 1, 2, none⟩ = some (.slice (some ⟨w.heap.size + 1 + 1, 0, none⟩) 1 1) := h.e.cell 2
theorem Abc.l0 {w W : World} (h : Abc w W) : Calls Tryd.prog 39 #[.slice (some ⟨w.heap.size, 0, none⟩) 1 1] W fun e w' => e = .returned (.agg (u8s (leafL [97]))) ∧ Below W.heap.size W w' :=
  leafhash_any W h.at_.t [97] _ 1 1 rfl (Nat.le_refl _) (by omega) (Bytes.of_mem (by simp)) h.r0
theorem Abc.l1 {w W : World} (h : Abc w W) : Calls Tryd.prog 39 #[.slice (some ⟨w.heap.size + 1, 0, none⟩) 1 1] W fun e w' => e = .returned (.agg (u8s (leafL [98]))) ∧ Below W.heap.size W w' :=
  leafhash_any W h.at_.t [98] _ 1 1 rfl (Nat.le_refl _) (by omega) (Bytes.of_mem (by simp)) h.r1
theorem Abc.l2 {w W : World} (h : Abc w W) : Calls Tryd.prog 39 #[.slice (some ⟨w.heap.size + 1 + 1, 0, none⟩) 1 1] W fun e w' => e = .returned (.agg (u8s (leafL [99]))) ∧ Below W.heap.size W w' :=
  leafhash_any W h.at_.t [99] _ 1 1 rfl (Nat.le_refl _) (by omega) (Bytes.of_mem (by simp)) h.r2
theorem abc_below (w : World) : Below w.heap.size w (abcW w) := by
  unfold abcW
  exact ((((Below.refl _ _).alloc (Nat.le_refl _) _).alloc (by simp) _).alloc (by simp only [size1]; omega) _).alloc (by simp only [size1]; omega) _
theorem abc_start (w : World) (hT : Tabs w) : Abc w (abcW w) := by
  have E1 : Blk (abcW w) w.heap.size 5 (u8s [97]) := (((Blk.new _ _ _).alloc _).alloc _).alloc _
  have E2 : Blk (abcW w) (w.heap.size + 1) 5 (u8s [98]) := ((Blk.new1 _ _ _ _).alloc _).alloc _
  have E3 : Blk (abcW w) (w.heap.size + 1 + 1) 5 (u8s [99]) := (Blk.new2 _ _ _ _ _).alloc _
  exact ⟨⟨hT, abc_below w⟩, Blk.new3 _ _ _ _ _ _, E1.rw, E2.rw, E3.rw⟩
attribute [local go_sem ↓] ld25 st25
theorem store_fresh (d : List Nat) (hd : d.length = 32) (W : World) : (storeAgg 25 (.pointer (some ⟨W.heap.size, 0, none⟩)) (.agg (u8s d))).run Tryd.prog (W.alloc (.cells #[.int .u8 0, .int .u8 0, .int .u8 0, .int .u8 0, .int .u8 0, .int .u8 0, .int .u8 0, .int .u8 0, .int .u8 0, .int .u8 0, .int .u8 0, .int .u8 0, .int .u8 0, .int .u8 0, .int .u8 0, .int .u8 0, .int .u8 0, .int .u8 0, .int .u8 0, .int .u8 0, .int .u8 0, .int .u8 0, .int .u8 0, .int .u8 0, .int .u8 0, .int .u8 0, .int .u8 0, .int .u8 0, .int .u8 0, .int .u8 0, .int .u8 0, .int .u8 0] 25)) = .ok () ((W.alloc (.cells #[.int .u8 0, .int .u8 0, .int .u8 0, .int .u8 0, .int .u8 0, .int .u8 0, .int .u8 0, .int .u8 0, .int .u8 0, .int .u8 0, .int .u8 0, .int .u8 0, .int .u8 0, .int .u8 0, .int .u8 0, .int .u8 0, .int .u8 0, .int .u8 0, .int .u8 0, .int .u8 0, .int .u8 0, .int .u8 0, .int .u8 0, .int .u8 0, .int .u8 0, .int .u8 0, .int .u8 0, .int .u8 0, .int .u8 0, .int .u8 0, .int .u8 0, .int .u8 0] 25)).setRow W.heap.size (u8s d)) :=
  store25_run (Blk.new W 25 (u8s (zer 32))) rfl hd
/-- region 5 before its variable is made, and behind -/
structure Nn (w5 W : World) : Prop where
  b : Below w5.heap.size w5 W
structure Zz (w5 W : World) (g : Nat) : Prop where
  z : Blk W g 25 (u8s (zer 32))
  g : w5.heap.size ≤ g
  b : Below w5.heap.size w5 W
theorem Nn.call {w5 W W' : World} (h : Nn w5 W) (B : Below W.heap.size W W') : Nn w5 W' := ⟨h.b.trans (B.mono h.b.size)⟩
theorem Nn.drew {w5 W : World} (h : Nn w5 W) : Nn w5 W.drew := ⟨h.b.drew⟩
theorem Nn.calld {w5 W W' : World} (h : Nn w5 W) (B : Below W.drew.heap.size W.drew W') : Nn w5 W' := h.drew.call B
theorem Zz.call {w5 W W' : World} {g : Nat} (h : Zz w5 W g) (B : Below W.heap.size W W') : Zz w5 W' g := ⟨h.z.below B h.z.lt, h.g, h.b.trans (B.mono h.b.size)⟩
theorem Zz.fresh {w5 W W' : World} (h : Nn w5 W) (B : Below (W.alloc (.cells #[.int .u8 0, .int .u8 0, .int .u8 0, .int .u8 0, .int .u8 0, .int .u8 0, .int .u8 0, .int .u8 0, .int .u8 0, .int .u8 0, .int .u8 0, .int .u8 0, .int .u8 0, .int .u8 0, .int .u8 0, .int .u8 0, .int .u8 0, .int .u8 0, .int .u8 0, .int .u8 0, .int .u8 0, .int .u8 0, .int .u8 0, .int .u8 0, .int .u8 0, .int .u8 0, .int .u8 0, .int .u8 0, .int .u8 0, .int .u8 0, .int .u8 0, .int .u8 0] 25)).heap.size (W.alloc (.cells #[.int .u8 0, .int .u8 0, .int .u8 0, .int .u8 0, .int .u8 0, .int .u8 0, .int .u8 0, .int .u8 0, .int .u8 0, .int .u8 0, .int .u8 0, .int .u8 0, .int .u8 0, .int .u8 0, .int .u8 0, .int .u8 0, .int .u8 0, .int .u8 0, .int .u8 0, .int .u8 0, .int .u8 0, .int .u8 0, .int .u8 0, .int .u8 0, .int .u8 0, .int .u8 0, .int .u8 0, .int .u8 0, .int .u8 0, .int .u8 0, .int .u8 0, .int .u8 0] 25)) W') : Zz w5 W' W.heap.size :=
  have h0 : Zz w5 (W.alloc (.cells #[.int .u8 0, .int .u8 0, .int .u8 0, .int .u8 0, .int .u8 0, .int .u8 0, .int .u8 0, .int .u8 0, .int .u8 0, .int .u8 0, .int .u8 0, .int .u8 0, .int .u8 0, .int .u8 0, .int .u8 0, .int .u8 0, .int .u8 0, .int .u8 0, .int .u8 0, .int .u8 0, .int .u8 0, .int .u8 0, .int .u8 0, .int .u8 0, .int .u8 0, .int .u8 0, .int .u8 0, .int .u8 0, .int .u8 0, .int .u8 0, .int .u8 0, .int .u8 0] 25)) W.heap.size := ⟨Blk.new W 25 (u8s (zer 32)), h.b.size, h.b.alloc h.b.size _⟩
  h0.call B
theorem Zz.freshd {w5 W W' : World} (h : Nn w5 W) (B : Below (W.drew.alloc (.cells #[.int .u8 0, .int .u8 0, .int .u8 0, .int .u8 0, .int .u8 0, .int .u8 0, .int .u8 0, .int .u8 0, .int .u8 0, .int .u8 0, .int .u8 0, .int .u8 0, .int .u8 0, .int .u8 0, .int .u8 0, .int .u8 0, .int .u8 0, .int .u8 0, .int .u8 0, .int .u8 0, .int .u8 0, .int .u8 0, .int .u8 0, .int .u8 0, .int .u8 0, .int .u8 0, .int .u8 0, .int .u8 0, .int .u8 0, .int .u8 0, .int .u8 0, .int .u8 0] 25)).heap.size (W.drew.alloc (.cells #[.int .u8 0, .int .u8 0, .int .u8 0, .int .u8 0, .int .u8 0, .int .u8 0, .int .u8 0, .int .u8 0, .int .u8 0, .int .u8 0, .int .u8 0, .int .u8 0, .int .u8 0, .int .u8 0, .int .u8 0, .int .u8 0, .int .u8 0, .int .u8 0, .int .u8 0, .int .u8 0, .int .u8 0, .int .u8 0, .int .u8 0, .int .u8 0, .int .u8 0, .int .u8 0, .int .u8 0, .int .u8 0, .int .u8 0, .int .u8 0, .int .u8 0, .int .u8 0] 25)) W') : Zz w5 W' W.heap.size := Zz.fresh (W := W.drew) h.drew B
/-- what region 7 reads, in a later world -/
structure KW (w W : World) (gn gr gl : Nat) (N R : List Nat) (b4 : Nat) (A4 : Option Addr) (c4 b5 : Nat) (A5 : Option Addr) (c5 : Nat) : Prop where
  n : Blk W gn 25 (u8s N)
  r : Blk W gr 25 (u8s R)
  l : Blk W gl 25 (u8s leftL)
  a : Abc w W
  o4 : OH W b4 A4 1 c4 [leftL]
  o5 : OH W b5 A5 1 c5 [leafL [99]]
section
variable {w W W' : World} {gn gr gl : Nat} {N R : List Nat} {b4 : Nat} {A4 : Option Addr} {c4 b5 : Nat} {A5 : Option Addr} {c5 : Nat}
theorem KW.step (h : KW w W gn gr gl N R b4 A4 c4 b5 A5 c5) (b : Below W.heap.size W W') : KW w W' gn gr gl N R b4 A4 c4 b5 A5 c5 :=
  ⟨h.n.below b h.n.lt, h.r.below b h.r.lt, h.l.below b h.l.lt, h.a.step b, h.o4.below b, h.o5.below b⟩
theorem KW.drew (h : KW w W gn gr gl N R b4 A4 c4 b5 A5 c5) : KW w W.drew gn gr gl N R b4 A4 c4 b5 A5 c5 := h.step (Below.refl _ _).drew
end
theorem OH.one {W : World} {b : Nat} {A : Option Addr} {c : Nat} {d : List Nat} (h : OH W b A 1 c [d]) : ∃ k, A = some ⟨k, 0, none⟩ := by
  rcases h.2.2.2 with ⟨_, h2⟩ | ⟨k, cap', cur, hv, _⟩
  · cases h2
  · injection hv with e1 e2 e3; exact ⟨k, e1⟩
theorem OH.load {W : World} {b k c : Nat} {d : List Nat} (h : OH W b (some ⟨k, 0, none⟩) 1 c [d]) : (loadAgg 25 (.pointer (some ⟨k, 0, none⟩))).run Tryd.prog W = .ok (.agg (u8s d)) W := by
  have hd : d.length = 32 := (h.2.1 d (by simp)).1
  have := loadAgg_run (P := Tryd.prog) (w := W) (ty := 25) (g := k) (off := 0) (u8s d).toList Tryd.underlying25 rfl (by rw [Array.length_toList]; exact size25 d hd) (fun j v hv => by
    have hj : j < 32 := by
      have := (List.getElem?_eq_some_iff.1 hv).1
      rw [Array.length_toList, u8s_size, hd] at this; exact this
    rw [Nat.zero_add, h.2.2.cellAt j (by omega), show hcell [d] = (u8s d).toList by rw [u8s_bvals]; simp [hcell], hv])
  simpa using this
set_option maxRecDepth 100000 in
set_option maxHeartbeats 4000000 in
theorem mknown_any (w : World) (hT : Tabs w) : Calls Tryd.prog 36 #[] w fun e w' => e = .returned (.bool true) ∧ Below w.heap.size w w' := by
  have H0 := Lib.hid (abc_start w hT)
  clear hT
  have hd := nodeL_length leftL (leafL [99])
  have hl := nodeL_length (leafL [97]) (leafL [98])
  have HN := Lib.hid (fun W (h : Tabs W) => nodehash_any W h leftL (leafL [99]) (nodeL_length _ _) (leafL_length _) (sha_bytes _) (sha_bytes _))
  have HM := Lib.hid (fun W (h : Tabs W) => nodehash_any W h (leafL [97]) (leafL [98]) (leafL_length _) (leafL_length _) (sha_bytes _) (sha_bytes _))
  go_enter Tryd.func36, Tryd.ntmps36
  go_wp2_with fail
  change Calls _ _ _ (abcW w) _
  generalize abcW w = W at *
  have hr := mroot_any 3 abc W (some ⟨w.heap.size + 1 + 1 + 1, 0, none⟩) 3 rfl (by omega) (by omega) (by omega) H0.out.at_.t H0.out.pl
  rw [root_abc] at hr
  generalize nodeL leftL (leafL [99]) = R at *
  refine hr.mono ?_
  clear hr
  rintro e w2 ⟨rfl, B2⟩
  have H2 := Lib.hid (H0.out.step B2)
  clear B2
  go_wp2_with (refine wpList_fillM rfl 25 (.tmp 2) (.tmp 18) rfl (u8s R) rfl rfl (size25 _ hd) (by rw [u8s_size, hd]; rfl) (u8s_one _) ?_; intro w3 E3 B3; have H3 := Lib.hid (And.intro E3 (H2.out.step B3)); clear E3 B3)
  generalize w2.heap.size = gr at *
  have hp := mprove_any 3 abc 2 w3 (some ⟨w.heap.size + 1 + 1 + 1, 0, none⟩) 3 rfl (by omega) (by omega) (by omega) (by omega) H3.out.2.at_.t H3.out.2.pl
  rw [prove_abc] at hp
  refine hp.mono ?_
  clear hp
  rintro e w4 ⟨A4, c4, rfl, O4, B4⟩
  have H4 := Lib.hid (And.intro (H3.out.1.below B4 H3.out.1.lt) (And.intro (H3.out.2.step B4) O4))
  clear O4 B4
  go_wp2_with fail
  have hp := mpcons_any 3 abc 2 w4 (some ⟨w.heap.size + 1 + 1 + 1, 0, none⟩) 3 rfl (by omega) (by omega) (by omega) (by omega) H4.out.2.1.at_.t H4.out.2.1.pl
  rw [cons_abc] at hp
  refine hp.mono ?_
  clear hp
  rintro e w5 ⟨A5, c5, rfl, O5, B5⟩
  have H5 := Lib.hid (And.intro (H4.out.1.below B5 H4.out.1.lt) (And.intro (H4.out.2.1.step B5) (And.intro (H4.out.2.2.below B5) O5)))
  clear O5 B5
  go_wp2_with fail
  generalize w3.heap.size = b4 at *
  generalize w4.heap.size = b5 at *
  go_cut [8] (fun v8 wx => ∃ gl : Nat, v8 = .pointer (some ⟨gl, 0, none⟩) ∧ Blk wx gl 25 (u8s leftL) ∧ Below w5.heap.size w5 wx)
  case first =>
    have AB := Lib.hid H5.out.2.1
    have NN := Lib.hid (Nn.mk (Below.refl w5.heap.size w5))
    have q0 := AB.out.c0
    have q1 := AB.out.c1
    have hlt := AB.out.e.lt
    clear HN HM H0 H2 H3 H4
    go_region_with (first
      | (go_at_call_of 39 (Value.slice (some ⟨w.heap.size, 0, none⟩) 1 1); refine (Abc.l0 (w := w) (by first | exact AB.out | exact AB.out.drew | exact AB.out.new _ | exact (AB.out.new _).drew | exact AB.out.drew.new _)).mono ?_; rintro e w6 ⟨rfl, B6⟩; have K6 := Abc.step (by first | exact AB.out | exact AB.out.drew | exact AB.out.new _ | exact (AB.out.new _).drew | exact AB.out.drew.new _) B6; have q6 := K6.c1; have hlt6 := K6.e.lt; have AB := Lib.hid K6; have H6 := Lib.hid B6; (first | have ZZ := Zz.freshd NN.out B6 | have ZZ := Zz.fresh NN.out B6 | have ZZ := Zz.call ZZ B6 | have NN := Lib.hid (NN.out.calld B6) | have NN := Lib.hid (NN.out.call B6)); clear B6 K6)
      | (go_at_call 39; ((with_reducible refine (Abc.l1 (w := w) (by first | exact AB.out | exact AB.out.drew | exact AB.out.new _ | exact (AB.out.new _).drew | exact AB.out.drew.new _)).mono ?_)); rintro e w7 ⟨rfl, B7⟩; have K7 := Abc.step (by first | exact AB.out | exact AB.out.drew | exact AB.out.new _ | exact (AB.out.new _).drew | exact AB.out.drew.new _) B7; have AB := Lib.hid K7; have H7 := Lib.hid B7; (first | have ZZ := Zz.freshd NN.out B7 | have ZZ := Zz.fresh NN.out B7 | have ZZ := Zz.call ZZ B7 | have NN := Lib.hid (NN.out.calld B7) | have NN := Lib.hid (NN.out.call B7)); clear B7 K7)
      | (go_at_call 41; refine (nodehash_any _ (Abc.at_ (w := w) (by first | exact AB.out | exact AB.out.drew | exact AB.out.new _ | exact (AB.out.new _).drew | exact AB.out.drew.new _)).t (leafL [97]) (leafL [98]) (leafL_length _) (leafL_length _) (sha_bytes _) (sha_bytes _)).mono ?_; rintro e w8 ⟨rfl, B8⟩; have H8 := Lib.hid B8; (first | have ZZ := Zz.freshd NN.out B8 | have ZZ := Zz.fresh NN.out B8 | have ZZ := Zz.call ZZ B8 | have NN := Lib.hid (NN.out.calld B8) | have NN := Lib.hid (NN.out.call B8)); (first | have SF := store25_run ZZ.z rfl hl | have SF := store_fresh _ hl); clear B8))
    all_goals go_wp2_with fail
    all_goals go_meet
    all_goals first
      | exact ⟨_, rfl, ZZ.z.setRow _, below_setRow' ZZ.b ZZ.g _⟩
      | exact ⟨_, rfl, (Blk.new _ 25 (u8s (zer 32))).setRow _, below_setRow' (NN.out.b.alloc NN.out.b.size _) NN.out.b.size _⟩
  case rest =>
    obtain ⟨gl, rfl, El, Bx⟩ := hcut
    have Hx := Lib.hid (And.intro (H5.out.1.below Bx H5.out.1.lt) (And.intro El (And.intro (H5.out.2.1.step Bx) (And.intro (H5.out.2.2.1.below Bx) (H5.out.2.2.2.below Bx)))))
    clear Bx El
    go_wp2_with fail
    have hr := mroot_any 0 [] wc none 0 rfl (by omega) (by omega) (by omega) Hx.out.2.2.1.at_.t (Or.inl rfl)
    rw [mrootL_zero _ rfl] at hr
    have hn32 : (sha []).length = 32 := sha_length _
    have hnB := sha_bytes []
    have hnt := nil_text
    generalize sha [] = N at *
    refine hr.mono ?_
    clear hr
    rintro e w6 ⟨rfl, B6⟩
    have H6 := Lib.hid (And.intro (Hx.out.1.below B6 Hx.out.1.lt) (And.intro (Hx.out.2.1.below B6 Hx.out.2.1.lt) (And.intro (Hx.out.2.2.1.step B6) (And.intro (Hx.out.2.2.2.1.below B6) (Hx.out.2.2.2.2.below B6)))))
    clear B6
    go_wp2_with (refine wpList_fillM rfl 25 (.tmp 9) (.tmp 41) rfl (u8s N) rfl rfl (size25 _ hn32) (by rw [u8s_size, hn32]; rfl) (u8s_one _) ?_; intro w7 E7 B7; have H7 := Lib.hid (And.intro E7 (And.intro (H6.out.1.below B7 H6.out.1.lt) (And.intro (H6.out.2.1.below B7 H6.out.2.1.lt) (And.intro (H6.out.2.2.1.step B7) (And.intro (H6.out.2.2.2.1.below B7) (H6.out.2.2.2.2.below B7)))))); clear E7 B7)
    generalize w6.heap.size = gn at *
    have H7 := Lib.hid (KW.mk H7.out.1 H7.out.2.1 H7.out.2.2.1 H7.out.2.2.2.1 H7.out.2.2.2.2.1 H7.out.2.2.2.2.2)
    have r7 := load25_run H7.out.drew.r hd
    have hl2 : leftL.length = 32 := hl
    have l7 := load25_run H7.out.drew.l hl2
    have c7 := H7.out.drew.a.c2
    have h99 := leafL_length [99]
    have eq1 := fun W => run_equalIn_dig W R R hd hd
    have eq2 := fun W => run_equalIn_dig W leftL leftL hl2 hl2
    have eq3 := fun W => run_equalIn_dig W (leafL [99]) (leafL [99]) h99 h99
    have s2 := fun W => sl41_h (w.heap.size + 1 + 1 + 1) 0 3 3 2 (by omega) W
    clear H0 H2 H3 H4 H5 H6 Hx HM
    refine wp_region_sego [0, 0, 0, 0, 0, 0, 0, 0, 0, 0, 0, 0, 0, 0, 0, 0, 0, 0, 0, 0, 1, 3, 4, 4, 4, 4, 4, 4, 4, 4, 4, 4, 4, 4, 4, 4, 4, 4, 4, 4, 4, 4, 4, 4, 4, 4, 4, 4, 5, 6, 6, 6, 6, 7, 8, 8, 8] [false, false, false, true] (by kernel_rfl) (by kernel_rfl) (fun _ _ d _ _ h => by cases d <;> exact h) (sego_go fun K0 hK0 => ?_)
    simp only [pickC, ↓reduceIte, Nat.reduceEqDiff, Nat.reduceAdd]
    go_wp2_with fail
    refine hK0.out _ (sego_act fun K2 hK2 => ?_)
    clear hK0 K0
    simp only [pickC, ↓reduceIte, Nat.reduceEqDiff, Nat.reduceAdd]
    go_wp2_with fail
    refine (H7.out.drew.a.l2).mono ?_
    rintro e w8 ⟨rfl, hBelow⟩
    have H8 := Lib.hid (H7.out.drew.step hBelow)
    go_wp2_with fail
    refine hK2.out _ _ hBelow (sego_go fun K0 hK0 => ?_)
    clear hK2 K2 hBelow
    simp only [pickC, ↓reduceIte, Nat.reduceEqDiff, Nat.reduceAdd]
    go_wp2_with fail
    refine hK0.out _ (sego_act fun K2 hK2 => ?_)
    clear hK0 K0
    simp only [pickC, ↓reduceIte, Nat.reduceEqDiff, Nat.reduceAdd]
    go_wp2_with fail
    refine (HN.out _ H8.out.a.at_.t).mono ?_
    rintro e w9 ⟨rfl, hBelow⟩
    have H9 := Lib.hid (H8.out.step hBelow)
    obtain ⟨k4, rfl⟩ := OH.one H9.out.o4
    obtain ⟨k5, rfl⟩ := OH.one H9.out.o5
    have l9 := load25_run H9.out.l hl2
    have p9 := H9.out.o4.load
    have q9 := H9.out.o5.load
    have c9 := H9.out.a.c2
    go_wp2_with fail
    refine hK2.out _ _ hBelow (sego_go fun K0 hK0 => ?_)
    clear hK2 K2 hBelow
    simp only [pickC, ↓reduceIte, Nat.reduceEqDiff, Nat.reduceAdd]
    go_wp2_with fail
    refine hK0.out _ (sego_act fun K2 hK2 => ?_)
    clear hK0 K0
    simp only [pickC, ↓reduceIte, Nat.reduceEqDiff, Nat.reduceAdd]
    go_wp2_with fail
    refine (H9.out.a.l2).mono ?_
    rintro e w10 ⟨rfl, hBelow⟩
    have H10 := Lib.hid (H9.out.step hBelow)
    have n10 := load25_run H10.out.n hn32
    go_wp2_with fail
    refine hK2.out _ _ hBelow (sego_last fun K0 hK0 => ?_)
    clear hK2 K2 hBelow
    simp only [pickC, ↓reduceIte, Nat.reduceEqDiff, Nat.reduceAdd]
    go_wp2_with fail
    refine hK0.out _ (sego_do fun K2 hK2 => ?_)
    clear hK0 K0
    simp only [pickC, ↓reduceIte, Nat.reduceEqDiff, Nat.reduceAdd]
    go_wp2_with fail
    refine (string_any _ N hn32 hnB).mono ?_
    rintro e w11 ⟨rfl, B11⟩
    have H11 := Lib.hid (H10.out.step B11)
    clear B11
    go_wp2_with fail
    refine hK2.out _ _ (sego_end fun K0 hK0 => ?_)
    clear hK2 K2
    simp only [pickC, ↓reduceIte, Nat.reduceEqDiff, Nat.reduceAdd]
    go_wp2_with fail
    refine hK0.out _ ?_
    clear hK0 K0
    go_wp2_with fail
    go_ret
    exact ⟨rfl, H11.out.a.at_.b⟩
end Go.Proofs.YtediocpdpghbfaaDoor
