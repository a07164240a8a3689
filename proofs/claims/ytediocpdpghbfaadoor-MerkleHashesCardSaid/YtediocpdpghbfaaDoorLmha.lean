/- The law of MerkleHashes: the walk. -/
import Derived.Test.YtediocpdpghbfaaDoorMkno
import Derived.Test.YtediocpdpghbfaaDoorMdig
import Derived.Test.YtediocpdpghbfaaDoorRegu
import Derived.Test.YtediocpdpghbfaaDoorLtex
import Derived.Deep.DeepCutAuto
set_option linter.unusedSimpArgs false
set_option linter.unusedVariables false
namespace Go.Proofs.YtediocpdpghbfaaDoor
open Go Go.RowKit

theorem elem22 : Tryd.prog.elem 22 = 5 := by kernel_rfl
theorem size5' : (Tryd.prog.info? 5).map (·.size) = some 1 := by kernel_rfl
theorem sl22_h (A : Option Addr) (n cap k : Nat) (hk : k ≤ cap) (hA : A = none → cap = 0) (w : World) :
    (Instr.sliceAt 22 (.slice A n cap) none (some (.int .i64 (k : Int))) none).run Tryd.prog w = .ok (.slice A k cap) w := by
  have hs := size5'
  rw [run_sliceAt_slice w 22 _ _ _ _ (by rw [elem22]; exact Tryd.underlying22), run_slice_h w 22 _ n cap (by rw [elem22]; exact Tryd.underlying22) .i64 k (by omega) (by omega)]
  cases hq : Tryd.prog.info? 5 with
  | none => simp [hq] at hs
  | some i =>
    have hi : i.size = 1 := by simpa [hq] using hs
    cases A with
    | none =>
      obtain rfl := hA rfl
      obtain rfl : k = 0 := by omega
      rw [elem22]; simp [sizeOf, typeInfo, hq, hi, sliced]
    | some ad =>
      rw [elem22]; simp [sizeOf, typeInfo, hq, hi, sliced]
      obtain ⟨x, y, z⟩ := ad
      intro _
      simp [Addr.add]
theorem RW.take {w : World} {A : Option Addr} {c : Nat} {b : List Nat} (h : RW w A c b) (k : Nat) : RW w A c (b.take k) := by
  refine ⟨fun hA => ⟨(h.1 hA).1, by rw [(h.1 hA).2]; simp⟩, fun ad hA hn => ?_⟩
  have hb : b ≠ [] := by rintro rfl; simp at hn
  refine ⟨(h.2 ad hA hb).1, (h.2 ad hA hb).2.1, fun j hj => ?_⟩
  rw [List.length_take] at hj
  rw [(h.2 ad hA hb).2.2 j (by omega)]
  simp [List.getD_eq_getElem?_getD, List.getElem?_take]
  rw [if_pos (by omega)]
/-- two fresh variables filled one behind the other: the first store -/
theorem wpList_fillA {P : Program} {ops : Array Oper} {Q : Exit → Act → World → Prop} {rest : List Oper} {o : Oper} {a : Act} {w : World} {cs0 cs1 : Array Value} {t : TypeId} (hgd : o.guard = none) (ty : TypeId) (p x : Operand) (ho : o.op = .store ty p x)
    (cs : Array Value) (hp : a.eval p = .pointer (some ⟨w.heap.size, 0, none⟩)) (hx : a.eval x = .agg cs) (hi : (P.info? ty).map (·.size) = some cs.size) (hs : cs0.size = cs.size) (h1 : cs.all (·.oneCell') = true)
    (h : ∀ W', Blk W' w.heap.size t cs → Blk W' (w.heap.size + 1) t cs1 → Below w.heap.size w W' → wpList P ops Q rest (a.put o.dst undef) W') : wpList P ops Q (o :: rest) a ((w.alloc (.cells cs0 t)).alloc (.cells cs1 t)) :=
  wpList_store_row hgd ty p x ho w.heap.size cs hp hx t cs0 ((Blk.new _ _ _).alloc _) hi hs h1 (h _ (((Blk.new _ _ _).alloc _).setRow _) ((Blk.new1 _ _ _ _).farRow (by omega) _) (below_setRow' (((Below.refl _ _).alloc (Nat.le_refl _) _).alloc (by simp) _) (Nat.le_refl _) _))
structure MhSt (w W : World) (gt ga : Nat) (al bl : List Nat) : Prop where
  a : Blk W ga 25 (u8s al)
  t : Blk W gt 32 (u32s TT)
  b : Blk W (ga + 1) 25 (u8s bl)
  at_ : At w W
theorem MhSt.step {w W W' : World} {gt ga : Nat} {al bl : List Nat} (h : MhSt w W gt ga al bl) (b : Below W.heap.size W W') : MhSt w W' gt ga al bl := ⟨h.a.below b h.a.lt, h.t.below b h.t.lt, h.b.below b h.b.lt, h.at_.step b⟩
theorem MhSt.drew {w W : World} {gt ga : Nat} {al bl : List Nat} (h : MhSt w W gt ga al bl) : MhSt w W.drew gt ga al bl := ⟨h.a, h.t, h.b, h.at_.drew⟩
theorem MhSt.stepB {w W W' : World} {gt ga base : Nat} {al bl : List Nat} (h : MhSt w W gt ga al bl) (b : Below base W W') (h1 : ga + 1 < base) (h2 : gt < base) (h3 : w.heap.size ≤ base) : MhSt w W' gt ga al bl :=
  ⟨h.a.below b (by omega), h.t.below b h2, h.b.below b h1, ⟨h.at_.t0, h.at_.b.trans (b.mono h3)⟩⟩
set_option maxRecDepth 100000 in
/-- append of an array's 32 bytes to a slice literal of one byte: always a new block -/
theorem wpList_app8G {w : World} {ops : Array Oper} {rest : List Oper} {o : Oper} {a : Act} {Q : Exit → Act → World → Prop} (hgd : o.guard = none) (s x : Operand)
    (ho : o.op = .call { callee := .builtin .append, args := #[s, x], argTypes := #[22, 22] }) (g : Nat) (y : Nat) (hs : a.eval s = .slice (some ⟨g, 0, none⟩) 1 1) (hE : Blk w g 5 (u8s [y]))
    (g2 : Nat) (l2 : List Nat) (hx : a.eval x = .slice (some ⟨g2, 0, none⟩) 32 32) {t2 : TypeId} (hE2 : Blk w g2 t2 (u8s l2)) (hl2 : l2.length = 32)
    (h : ∀ A' cap' w', OB w' w.heap.size A' 33 cap' (y :: l2) → Below w.heap.size w w' → wpList Tryd.prog ops Q rest (a.put o.dst (.slice A' 33 cap')) w') : wpList Tryd.prog ops Q (o :: rest) a w := by
  obtain ⟨i0, hi0, hz0, hz1, hz2⟩ := info_parts info5
  have cellsOf : ∀ {g t} {l : List Nat}, Blk w g t (u8s l) → ∀ j u, (bvals l)[j]? = some u → w.cell? ((⟨g, 0, none⟩ : Addr).add j) = some u := by
    intro g t l hb j u hj
    rw [addr_add, hb.cell, Nat.zero_add, ← hj, ← u8s_bvals]; simp
  refine wpList_append_grows w hgd s x 22 ho 5 i0 (.int .u8 0) 1 1 Tryd.underlying22 hi0 hz0 hz1 hz2 rfl (by decide) (some ⟨g, 0, none⟩) 1 1 (bvals [y]) hs (by simp) (by simp [bvals_length]) ?_ ⟨g2, 0, none⟩ 32 32 (bvals l2) hx (by rw [bvals_length, hl2]) (cellsOf hE2) ?_ (by omega) (by unfold maxLen; omega) (by omega) ?_
  · intro b hb j u hj
    injection hb with hb
    subst hb
    exact cellsOf hE j u hj
  · intro u hu; simp only [bvals, List.mem_map] at hu; obtain ⟨x, _, rfl⟩ := hu; rfl
  · intro v' w' hown hg
    obtain ⟨A', cap', rfl⟩ : ∃ A' cap', v' = .slice A' 33 cap' := by
      rcases hown.2 with ⟨_, hx⟩ | ⟨g, cap, cur, rfl, _⟩
      · cases hx
      · exact ⟨_, cap, rfl⟩
    exact h A' cap' w' ⟨by rw [List.length_cons, hl2], by rw [show bvals (y :: l2) = bvals [y] ++ bvals l2 from rfl]; exact hown⟩ ((Below.refl _ _).grown hg (Nat.le_refl _) (fun k hk => by cases hk))
attribute [local go_sem ↓] ld25 st25 ld32
set_option maxRecDepth 100000 in
set_option maxHeartbeats 4000000 in
theorem law_merkleHashes (w : World) (hT : Tabs w) (d l r : List Nat) (D L R : Option Addr) (cd cl cr nd nl nr : Nat) (ld : d.length = nd) (ll : l.length = nl) (lr : r.length = nr) (hd : nd ≤ cd) (hl : nl ≤ cl) (hr : nr ≤ cr)
    (Bd : Bytes d) (Bl : Bytes l) (Br : Bytes r) (rd : RW w D cd d) (rl : RW w L cl l) (rr : RW w R cr r) :
    Calls Tryd.prog 11 #[.slice D nd cd, .slice L nl cl, .slice R nr cr] w fun e w' => e = .returned (.bool true) ∧ Below w.heap.size w w' := by
  obtain ⟨m, hm⟩ : ∃ m, min nd 200 = m := ⟨_, rfl⟩
  have hmI : min (nd : Int) 200 = (m : Int) := by omega
  have hmc : m ≤ cd := by omega
  have hm2 : m ≤ 200 := by omega
  have hs1 := fun (k : Nat) (hk : k ≤ cd) W => sl22_h D nd cd k hk (fun h => (rd.1 h).1) W
  have HS := Lib.hid hs1
  clear hs1
  have ldm : (d.take m).length = m := by rw [List.length_take]; omega
  have HD := Lib.hid (And.intro (rd.take m) (Bytes.of_mem (fun x hx => Bd.mem x (List.mem_of_mem_take hx)) : Bytes (d.take m)))
  generalize d.take m = b at *
  have HX := Lib.hid (And.intro hT (And.intro rl rr))
  have HY := Lib.hid (And.intro ll (And.intro lr (And.intro Bl Br)))
  have hla := digL_length l
  have hlb := digL_length r
  have HZ := Lib.hid (And.intro (digL_bytes l Bl) (digL_bytes r Br))
  clear hT rl rr rd ld ll lr Bd Bl Br
  go_enter Tryd.func11, Tryd.ntmps11
  go_wp2_with fail
  refine (mknown_any w HX.out.1).mono ?_
  rintro e w1 ⟨rfl, B1⟩
  have A1 := Lib.hid (At.mk HX.out.1 B1)
  clear B1
  go_wp2_with fail
  refine (rmake_any w1).mono ?_
  rintro e w2 ⟨rfl, B2⟩
  have A2 := Lib.hid (A1.out.step B2)
  clear B2 A1
  go_upto_region 4 with (refine wpList_fillM rfl 32 (.tmp 7) (.tmp 12) rfl (u32s TT) rfl rfl (size32 _ TT_length) (by rw [u32s_size, TT_length]; rfl) (u32s_one _) ?_; intro w3 E3 B3; have A3 := Lib.hid (And.intro E3 (A2.out.step B3)); clear E3 B3 A2)
  generalize w2.heap.size = gt at *
  rw [show ∀ (a : Act) (v : Value), a.put none v = a from fun _ _ => rfl]
  go_cut [0] (fun v0 wx => v0 = .slice D m cd ∧ wx = w3)
  case first =>
    by_cases h200 : nd ≤ 200
    · obtain rfl : m = nd := by omega
      have hs := HS.out m hmc
      have t0 : (m : Int) ≤ 200 := by omega
      go_wp2_with fail
      go_meet
      exact ⟨rfl, rfl⟩
    · obtain rfl : m = 200 := by omega
      have hs := HS.out 200 hmc
      have t0 : ¬ (nd : Int) ≤ 200 := by omega
      go_wp2_with fail
      go_meet
      exact ⟨rfl, rfl⟩
  case rest =>
  obtain ⟨rfl, rfl⟩ := hcut
  go_wp2_with fail
  have hd1 := digest_any wc l L nl cl HY.out.1 hl HY.out.2.2.1 (HX.out.2.1.below A3.out.2.b)
  have hd2 := fun W (h : At w W) => digest_any W r R nr cr HY.out.2.1 hr HY.out.2.2.2 (HX.out.2.2.below h.b)
  have HE := Lib.hid hd2
  clear hd2
  generalize digL l = al at *
  generalize digL r = bl at *
  refine hd1.mono ?_
  clear hd1
  rintro e w4 ⟨rfl, B4⟩
  have A4 := Lib.hid (And.intro (A3.out.1.below B4 A3.out.1.lt) (A3.out.2.step B4))
  clear B4 A3
  go_wp2_with fail
  refine (HE.out _ A4.out.2).mono ?_
  rintro e w5 ⟨rfl, B5⟩
  have A5 := Lib.hid (And.intro (A4.out.1.below B5 A4.out.1.lt) (A4.out.2.step B5))
  clear B5 A4
  go_wp2_with (refine wpList_fillA rfl 25 (.tmp 8) (.tmp 19) rfl (u8s al) rfl rfl (size25 _ hla) (by rw [u8s_size, hla]; rfl) (u8s_one _) ?_; intro w6 E6 F6 B6; have s6 := store25_run (show Blk w6 _ 25 (u8s (zer 32)) from F6) rfl hlb; have hgt := A5.out.1.lt; have hw5 := A5.out.2.le; have A6 := Lib.hid (And.intro E6 (And.intro (A5.out.1.below B6 A5.out.1.lt) (And.intro F6 (A5.out.2.step B6)))); clear E6 F6 B6 A5)
  obtain ⟨W, hW⟩ : ∃ W, W = w6.setRow (w5.heap.size + 1) (u8s bl) := ⟨_, rfl⟩
  rw [← hW]
  have M : MhSt w W gt w5.heap.size al bl := by
    rw [hW]
    exact ⟨A6.out.1.farRow (by omega) _, A6.out.2.1.farRow (by omega) _, A6.out.2.2.1.setRow _, at_row A6.out.2.2.2 (by omega) _⟩
  have M' := Lib.hid M.drew
  clear M hW s6 A6
  have M := M'
  clear M'
  generalize w5.heap.size = ga at *
  have hb9 := leafL_length b
  have hn9 := nodeL_length al bl
  have eq1 := fun W => run_equalIn_dig W (leafL b) (leafL b) hb9 hb9
  have eq2 := fun W => run_equalIn_dig W (nodeL al bl) (nodeL al bl) hn9 hn9
  have sa := fun W => sl25 W ga
  have sb := fun W => sl25 W (ga + 1)
  refine wp_region_tree (.look [true, false, false, true, false, false, false, false, false, false, false, false, false, false, false, false, false, false, false, false, false, false, false, false, false, false, false, false] (.fork [false, true, false, false, false, false, false, false, false, false, false, false, false, false, false, false, false, false, false, false, false, false, false, false, false, false, false, false] (.act [false, false, true, false, false, false, false, false, false, false, false, false, false, false, false, false, false, false, false, false, false, false, false, false, false, false, false, false] (.last [false, false, false, false, true, false, false, false, false, false, false, false, false, false, false, false, false, false, false, false, false, false, false, false, false, false, false, false] (.last [false, false, false, false, false, true, false, false, false, false, false, false, false, false, false, false, false, false, false, false, false, false, false, false, false, false, false, false] (.look [false, false, false, false, false, false, true, true, true, false, true, true, false, false, false, false, false, false, false, false, false, false, false, false, false, false, false, false] (.act [false, false, false, false, false, false, false, false, false, true, false, false, false, false, false, false, false, false, false, false, false, false, false, false, false, false, false, false] (.last [false, false, false, false, false, false, false, false, false, false, false, false, true, false, false, false, false, false, false, false, false, false, false, false, false, false, false, false] (.look [false, false, false, false, false, false, false, false, false, false, false, false, false, true, true, true, true, true, false, false, true, false, true, false, false, false, false, false] (.fork [false, false, false, false, false, false, false, false, false, false, false, false, false, false, false, false, false, false, true, false, false, false, false, false, false, false, false, false] (.act [false, false, false, false, false, false, false, false, false, false, false, false, false, false, false, false, false, false, false, true, false, false, false, false, false, false, false, false] (.act [false, false, false, false, false, false, false, false, false, false, false, false, false, false, false, false, false, false, false, false, false, true, false, false, false, false, false, false] (.last [false, false, false, false, false, false, false, false, false, false, false, false, false, false, false, false, false, false, false, false, false, false, false, true, false, false, false, false] (.last [false, false, false, false, false, false, false, false, false, false, false, false, false, false, false, false, false, false, false, false, false, false, false, false, true, false, false, false] (.look [false, false, false, false, false, false, false, false, false, false, false, false, false, false, false, false, false, false, false, false, false, false, false, false, false, true, true, true] .stop))))) (.act [false, false, false, false, false, false, false, false, false, false, false, false, false, false, false, false, false, false, false, true, false, false, false, false, false, false, false, false] (.act [false, false, false, false, false, false, false, false, false, false, false, false, false, false, false, false, false, false, true, false, false, false, false, false, false, false, false, false] (.act [false, false, false, false, false, false, false, false, false, false, false, false, false, false, false, false, false, false, false, false, false, true, false, false, false, false, false, false] (.last [false, false, false, false, false, false, false, false, false, false, false, false, false, false, false, false, false, false, false, false, false, false, false, true, false, false, false, false] (.last [false, false, false, false, false, false, false, false, false, false, false, false, false, false, false, false, false, false, false, false, false, false, false, false, true, false, false, false] (.look [false, false, false, false, false, false, false, false, false, false, false, false, false, false, false, false, false, false, false, false, false, false, false, false, false, true, true, true] .stop)))))))))))))) (.act [false, false, true, false, false, false, false, false, false, false, false, false, false, false, false, false, false, false, false, false, false, false, false, false, false, false, false, false] (.act [false, true, false, false, false, false, false, false, false, false, false, false, false, false, false, false, false, false, false, false, false, false, false, false, false, false, false, false] (.last [false, false, false, false, true, false, false, false, false, false, false, false, false, false, false, false, false, false, false, false, false, false, false, false, false, false, false, false] (.last [false, false, false, false, false, true, false, false, false, false, false, false, false, false, false, false, false, false, false, false, false, false, false, false, false, false, false, false] (.look [false, false, false, false, false, false, true, true, true, false, true, true, false, false, false, false, false, false, false, false, false, false, false, false, false, false, false, false] (.act [false, false, false, false, false, false, false, false, false, true, false, false, false, false, false, false, false, false, false, false, false, false, false, false, false, false, false, false] (.last [false, false, false, false, false, false, false, false, false, false, false, false, true, false, false, false, false, false, false, false, false, false, false, false, false, false, false, false] (.look [false, false, false, false, false, false, false, false, false, false, false, false, false, true, true, true, true, true, false, false, true, false, true, false, false, false, false, false] (.fork [false, false, false, false, false, false, false, false, false, false, false, false, false, false, false, false, false, false, true, false, false, false, false, false, false, false, false, false] (.act [false, false, false, false, false, false, false, false, false, false, false, false, false, false, false, false, false, false, false, true, false, false, false, false, false, false, false, false] (.act [false, false, false, false, false, false, false, false, false, false, false, false, false, false, false, false, false, false, false, false, false, true, false, false, false, false, false, false] (.last [false, false, false, false, false, false, false, false, false, false, false, false, false, false, false, false, false, false, false, false, false, false, false, true, false, false, false, false] (.last [false, false, false, false, false, false, false, false, false, false, false, false, false, false, false, false, false, false, false, false, false, false, false, false, true, false, false, false] (.look [false, false, false, false, false, false, false, false, false, false, false, false, false, false, false, false, false, false, false, false, false, false, false, false, false, true, true, true] .stop))))) (.act [false, false, false, false, false, false, false, false, false, false, false, false, false, false, false, false, false, false, false, true, false, false, false, false, false, false, false, false] (.act [false, false, false, false, false, false, false, false, false, false, false, false, false, false, false, false, false, false, true, false, false, false, false, false, false, false, false, false] (.act [false, false, false, false, false, false, false, false, false, false, false, false, false, false, false, false, false, false, false, false, false, true, false, false, false, false, false, false] (.last [false, false, false, false, false, false, false, false, false, false, false, false, false, false, false, false, false, false, false, false, false, false, false, true, false, false, false, false] (.last [false, false, false, false, false, false, false, false, false, false, false, false, false, false, false, false, false, false, false, false, false, false, false, false, true, false, false, false] (.look [false, false, false, false, false, false, false, false, false, false, false, false, false, false, false, false, false, false, false, false, false, false, false, false, false, true, true, true] .stop))))))))))))))))) (by kernel_rfl) (by kernel_rfl) (fun _ _ d _ _ h => by cases d <;> exact h) ?_
  generalize W.drew = V at *
  refine st_look fun K0 hK0 => ?_
  simp only [pickM]
  go_wp2_with fail
  refine hK0.out _ ?_
  clear hK0 K0
  refine st_fork (fun K2 hK2 => ?_) ?_
  · simp only [pickM]
    go_wp2_with fail
    refine (leafhash_any _ M.out.at_.t b D m cd ldm hmc (by omega) HD.out.2 (HD.out.1.below M.out.at_.b)).mono ?_
    rintro e x1 ⟨rfl, hBelow⟩
    have M := Lib.hid (M.out.step hBelow)
    go_wp2_with fail
    refine hK2.out _ _ hBelow ?_
    clear hK2 K2 hBelow
    refine st_act fun K2 hK2 => ?_
    simp only [pickM]
    go_wp2_with fail
    obtain ⟨x2, hx⟩ : ∃ X, X = World.alloc x1 (.cells #[.int .u8 0] 5) := ⟨_, rfl⟩
    rw [← hx]
    have hBelow : Below x1.heap.size x1 x2 := by rw [hx]; exact (Below.refl _ _).alloc (Nat.le_refl _) _
    have hga : ga + 1 < x1.heap.size := M.out.b.lt
    have hbt : gt < x1.heap.size := M.out.t.lt
    have hbw : w.heap.size ≤ x1.heap.size := M.out.at_.le
    have hbn : x1.heap.size ≤ x2.heap.size := hBelow.size
    have O := Lib.hid (show OB x2 x1.heap.size (some ⟨x1.heap.size, 0, none⟩) 1 1 [0] by rw [hx]; exact ob_one x1 0)
    have M := Lib.hid (M.out.step hBelow)
    clear hx
    go_wp2_with fail
    refine hK2.out _ _ hBelow ?_
    clear hK2 K2 hBelow
    refine st_last fun K2 hK2 => ?_
    simp only [pickM]
    refine wpList_app8 rfl (.tmp 24) (.tmp 25) rfl x1.heap.size (some ⟨x1.heap.size, 0, none⟩) 1 1 [0] rfl O.out D m cd b rfl ldm (HD.out.1.below M.out.at_.b) (by omega) hbn ?_
    intro A1 c1 x3 O1 B1 _
    have M := Lib.hid (M.out.stepB B1 hga hbt hbw)
    have O1 := Lib.hid O1
    clear B1 O hga hbt hbw hbn
    go_wp2_with fail
    refine hK2.out _ _ ?_
    clear hK2 K2
    refine st_last fun K2 hK2 => ?_
    simp only [pickM]
    go_wp2_with fail
    have hs := sum_any _ M.out.at_.t (0 :: b) A1 c1 (by have := O1.out.cap_le; rw [List.length_cons, ldm]; omega) (bytes_cons (x := 0) (by decide) HD.out.2) (O1.out.rw.rb (Nat.le_refl _)) (by rw [List.length_cons, ldm]; omega)
    rw [show (0 :: b).length = 1 + m by rw [List.length_cons, ldm, Nat.add_comm]] at hs
    have hs : Calls Tryd.prog 20 #[.slice A1 (1 + m) c1] x3 (fun e w' => e = .returned (.agg (u8s (leafL b))) ∧ Below x3.heap.size x3 w') := hs
    refine hs.mono ?_
    clear hs
    rintro e x4 ⟨rfl, B5⟩
    have M := Lib.hid (M.out.step B5)
    clear B5 O1
    have lt := load32_run M.out.t
    go_wp2_with fail
    refine hK2.out _ _ ?_
    clear hK2 K2
    refine st_look fun K0 hK0 => ?_
    simp only [pickM]
    go_wp2_with fail
    refine hK0.out _ ?_
    clear hK0 K0
    refine st_act fun K2 hK2 => ?_
    simp only [pickM]
    go_wp2_with fail
    refine (leafhash_any _ M.out.at_.t b D m cd ldm hmc (by omega) HD.out.2 (HD.out.1.below M.out.at_.b)).mono ?_
    rintro e x5 ⟨rfl, hBelow⟩
    have M := Lib.hid (M.out.step hBelow)
    go_wp2_with fail
    refine hK2.out _ _ hBelow ?_
    clear hK2 K2 hBelow
    refine st_last fun K2 hK2 => ?_
    simp only [pickM]
    go_wp2_with fail
    refine (rleaf_any _ b D m cd ldm hmc (by omega) HD.out.2 (HD.out.1.below M.out.at_.b)).mono ?_
    rintro e x6 ⟨rfl, B6⟩
    have M := Lib.hid (M.out.step B6)
    clear B6
    have la := load25_run M.out.a hla
    have lb := load25_run M.out.b hlb
    go_wp2_with fail
    refine hK2.out _ _ ?_
    clear hK2 K2
    refine st_look fun K0 hK0 => ?_
    simp only [pickM]
    go_wp2_with fail
    refine hK0.out _ ?_
    clear hK0 K0
    refine st_fork (fun K2 hK2 => ?_) ?_
    · simp only [pickM]
      go_wp2_with fail
      refine (nodehash_any _ M.out.at_.t al bl hla hlb HZ.out.1 HZ.out.2).mono ?_
      rintro e x7 ⟨rfl, hBelow⟩
      have M := Lib.hid (M.out.step hBelow)
      go_wp2_with fail
      refine hK2.out _ _ hBelow ?_
      clear hK2 K2 hBelow
      refine st_act fun K2 hK2 => ?_
      simp only [pickM]
      go_wp2_with fail
      obtain ⟨x8, hx⟩ : ∃ X, X = World.alloc x7 (.cells #[.int .u8 1] 5) := ⟨_, rfl⟩
      rw [← hx]
      have hBelow : Below x7.heap.size x7 x8 := by rw [hx]; exact (Below.refl _ _).alloc (Nat.le_refl _) _
      have hga : ga + 1 < x7.heap.size := M.out.b.lt
      have hbt : gt < x7.heap.size := M.out.t.lt
      have hbw : w.heap.size ≤ x7.heap.size := M.out.at_.le
      have hbn : x7.heap.size ≤ x8.heap.size := hBelow.size
      have E2 := Lib.hid (show Blk x8 x7.heap.size 5 (u8s [1]) by rw [hx]; exact Blk.new x7 5 _)
      have M := Lib.hid (M.out.step hBelow)
      clear hx
      go_wp2_with fail
      refine hK2.out _ _ hBelow ?_
      clear hK2 K2 hBelow
      refine st_act fun K2 hK2 => ?_
      simp only [pickM]
      refine wpList_unguard rfl (wpList_app8G rfl (.tmp 41) (.tmp 42) rfl x7.heap.size 1 rfl E2.out ga al rfl M.out.a hla ?_)
      intro A3 c3 x9 O3 hBelow
      have O3 := Lib.hid O3
      have hga : ga + 1 < x8.heap.size := M.out.b.lt
      have hbt : gt < x8.heap.size := M.out.t.lt
      have hbw : w.heap.size ≤ x8.heap.size := M.out.at_.le
      have hbn : x8.heap.size ≤ x9.heap.size := hBelow.size
      have M := Lib.hid (M.out.step hBelow)
      clear E2
      go_wp2_with fail
      refine hK2.out _ _ hBelow ?_
      clear hK2 K2 hBelow
      refine st_last fun K2 hK2 => ?_
      simp only [pickM]
      refine wpList_unguard rfl (wpList_app8 rfl (.tmp 43) (.tmp 44) rfl x8.heap.size A3 33 c3 (1 :: al) rfl O3.out (some ⟨ga + 1, 0, none⟩) 32 32 bl rfl hlb M.out.b.rw (by omega) hbn ?_)
      intro A4 c4 x10 O4 B4 _
      have M := Lib.hid (M.out.stepB B4 hga hbt hbw)
      have O4 := Lib.hid O4
      clear B4 O3 hga hbt hbw hbn
      go_wp2_with fail
      refine hK2.out _ _ ?_
      clear hK2 K2
      refine st_last fun K2 hK2 => ?_
      simp only [pickM]
      go_wp2_with fail
      have hs := sum_any _ M.out.at_.t (1 :: (al ++ bl)) A4 c4 (by have := O4.out.cap_le; rw [List.length_cons, List.length_append, hla, hlb]; omega) (bytes_cons (x := 1) (by decide) (Bytes.of_mem (fun x hx => (List.mem_append.1 hx).elim (HZ.out.1.mem x) (HZ.out.2.mem x)))) (OB.rw O4.out |>.rb (Nat.le_refl _)) (by rw [List.length_cons, List.length_append, hla, hlb]; omega)
      rw [show (1 :: (al ++ bl)).length = 65 by rw [List.length_cons, List.length_append, hla, hlb]] at hs
      have hs : Calls Tryd.prog 20 #[.slice A4 65 c4] x10 (fun e w' => e = .returned (.agg (u8s (nodeL al bl))) ∧ Below x10.heap.size x10 w') := hs
      refine hs.mono ?_
      clear hs
      rintro e x11 ⟨rfl, B5⟩
      have M := Lib.hid (M.out.step B5)
      clear B5 O4
      go_wp2_with fail
      refine hK2.out _ _ ?_
      clear hK2 K2
      refine st_look fun K0 hK0 => ?_
      simp only [pickM]
      go_wp2_with fail
      refine hK0.out _ ?_
      clear hK0 K0
      change Exit.then _ _ _ _ _
      go_wp2_with fail
      go_ret
      exact ⟨rfl, M.out.at_.b⟩
    · refine st_act fun K2 hK2 => ?_
      simp only [pickM]
      go_wp2_with fail
      obtain ⟨x12, hx⟩ : ∃ X, X = World.alloc x6 (.cells #[.int .u8 1] 5) := ⟨_, rfl⟩
      rw [← hx]
      have hBelow : Below x6.heap.size x6 x12 := by rw [hx]; exact (Below.refl _ _).alloc (Nat.le_refl _) _
      have hga : ga + 1 < x6.heap.size := M.out.b.lt
      have hbt : gt < x6.heap.size := M.out.t.lt
      have hbw : w.heap.size ≤ x6.heap.size := M.out.at_.le
      have hbn : x6.heap.size ≤ x12.heap.size := hBelow.size
      have E2 := Lib.hid (show Blk x12 x6.heap.size 5 (u8s [1]) by rw [hx]; exact Blk.new x6 5 _)
      have M := Lib.hid (M.out.step hBelow)
      clear hx
      go_wp2_with fail
      refine hK2.out _ _ hBelow ?_
      clear hK2 K2 hBelow
      refine st_act fun K2 hK2 => ?_
      simp only [pickM]
      go_wp2_with fail
      refine (nodehash_any _ M.out.at_.t al bl hla hlb HZ.out.1 HZ.out.2).mono ?_
      rintro e x13 ⟨rfl, hBelow⟩
      have M := Lib.hid (M.out.step hBelow)
      have E2 := Lib.hid (E2.out.below hBelow E2.out.lt)
      go_wp2_with fail
      refine hK2.out _ _ hBelow ?_
      clear hK2 K2 hBelow
      refine st_act fun K2 hK2 => ?_
      simp only [pickM]
      refine wpList_unguard rfl (wpList_app8G rfl (.tmp 41) (.tmp 42) rfl x6.heap.size 1 rfl E2.out ga al rfl M.out.a hla ?_)
      intro A3 c3 x14 O3 hBelow
      have O3 := Lib.hid O3
      have hga : ga + 1 < x13.heap.size := M.out.b.lt
      have hbt : gt < x13.heap.size := M.out.t.lt
      have hbw : w.heap.size ≤ x13.heap.size := M.out.at_.le
      have hbn : x13.heap.size ≤ x14.heap.size := hBelow.size
      have M := Lib.hid (M.out.step hBelow)
      clear E2
      go_wp2_with fail
      refine hK2.out _ _ hBelow ?_
      clear hK2 K2 hBelow
      refine st_last fun K2 hK2 => ?_
      simp only [pickM]
      refine wpList_unguard rfl (wpList_app8 rfl (.tmp 43) (.tmp 44) rfl x13.heap.size A3 33 c3 (1 :: al) rfl O3.out (some ⟨ga + 1, 0, none⟩) 32 32 bl rfl hlb M.out.b.rw (by omega) hbn ?_)
      intro A4 c4 x15 O4 B4 _
      have M := Lib.hid (M.out.stepB B4 hga hbt hbw)
      have O4 := Lib.hid O4
      clear B4 O3 hga hbt hbw hbn
      go_wp2_with fail
      refine hK2.out _ _ ?_
      clear hK2 K2
      refine st_last fun K2 hK2 => ?_
      simp only [pickM]
      go_wp2_with fail
      have hs := sum_any _ M.out.at_.t (1 :: (al ++ bl)) A4 c4 (by have := O4.out.cap_le; rw [List.length_cons, List.length_append, hla, hlb]; omega) (bytes_cons (x := 1) (by decide) (Bytes.of_mem (fun x hx => (List.mem_append.1 hx).elim (HZ.out.1.mem x) (HZ.out.2.mem x)))) (OB.rw O4.out |>.rb (Nat.le_refl _)) (by rw [List.length_cons, List.length_append, hla, hlb]; omega)
      rw [show (1 :: (al ++ bl)).length = 65 by rw [List.length_cons, List.length_append, hla, hlb]] at hs
      have hs : Calls Tryd.prog 20 #[.slice A4 65 c4] x15 (fun e w' => e = .returned (.agg (u8s (nodeL al bl))) ∧ Below x15.heap.size x15 w') := hs
      refine hs.mono ?_
      clear hs
      rintro e x16 ⟨rfl, B5⟩
      have M := Lib.hid (M.out.step B5)
      clear B5 O4
      go_wp2_with fail
      refine hK2.out _ _ ?_
      clear hK2 K2
      refine st_look fun K0 hK0 => ?_
      simp only [pickM]
      go_wp2_with fail
      refine hK0.out _ ?_
      clear hK0 K0
      change Exit.then _ _ _ _ _
      go_wp2_with fail
      go_ret
      exact ⟨rfl, M.out.at_.b⟩
  · refine st_act fun K2 hK2 => ?_
    simp only [pickM]
    go_wp2_with fail
    obtain ⟨x17, hx⟩ : ∃ X, X = World.alloc V (.cells #[.int .u8 0] 5) := ⟨_, rfl⟩
    rw [← hx]
    have hBelow : Below V.heap.size V x17 := by rw [hx]; exact (Below.refl _ _).alloc (Nat.le_refl _) _
    have hga : ga + 1 < V.heap.size := M.out.b.lt
    have hbt : gt < V.heap.size := M.out.t.lt
    have hbw : w.heap.size ≤ V.heap.size := M.out.at_.le
    have hbn : V.heap.size ≤ x17.heap.size := hBelow.size
    have O := Lib.hid (show OB x17 V.heap.size (some ⟨V.heap.size, 0, none⟩) 1 1 [0] by rw [hx]; exact ob_one V 0)
    have M := Lib.hid (M.out.step hBelow)
    clear hx
    go_wp2_with fail
    refine hK2.out _ _ hBelow ?_
    clear hK2 K2 hBelow
    refine st_act fun K2 hK2 => ?_
    simp only [pickM]
    go_wp2_with fail
    refine (leafhash_any _ M.out.at_.t b D m cd ldm hmc (by omega) HD.out.2 (HD.out.1.below M.out.at_.b)).mono ?_
    rintro e x18 ⟨rfl, hBelow⟩
    have M := Lib.hid (M.out.step hBelow)
    have O := Lib.hid (O.out.below hBelow)
    have hbn := Nat.le_trans hbn hBelow.size
    go_wp2_with fail
    refine hK2.out _ _ hBelow ?_
    clear hK2 K2 hBelow
    refine st_last fun K2 hK2 => ?_
    simp only [pickM]
    refine wpList_app8 rfl (.tmp 24) (.tmp 25) rfl V.heap.size (some ⟨V.heap.size, 0, none⟩) 1 1 [0] rfl O.out D m cd b rfl ldm (HD.out.1.below M.out.at_.b) (by omega) hbn ?_
    intro A1 c1 x19 O1 B1 _
    have M := Lib.hid (M.out.stepB B1 hga hbt hbw)
    have O1 := Lib.hid O1
    clear B1 O hga hbt hbw hbn
    go_wp2_with fail
    refine hK2.out _ _ ?_
    clear hK2 K2
    refine st_last fun K2 hK2 => ?_
    simp only [pickM]
    go_wp2_with fail
    have hs := sum_any _ M.out.at_.t (0 :: b) A1 c1 (by have := O1.out.cap_le; rw [List.length_cons, ldm]; omega) (bytes_cons (x := 0) (by decide) HD.out.2) (O1.out.rw.rb (Nat.le_refl _)) (by rw [List.length_cons, ldm]; omega)
    rw [show (0 :: b).length = 1 + m by rw [List.length_cons, ldm, Nat.add_comm]] at hs
    have hs : Calls Tryd.prog 20 #[.slice A1 (1 + m) c1] x19 (fun e w' => e = .returned (.agg (u8s (leafL b))) ∧ Below x19.heap.size x19 w') := hs
    refine hs.mono ?_
    clear hs
    rintro e x20 ⟨rfl, B5⟩
    have M := Lib.hid (M.out.step B5)
    clear B5 O1
    have lt := load32_run M.out.t
    go_wp2_with fail
    refine hK2.out _ _ ?_
    clear hK2 K2
    refine st_look fun K0 hK0 => ?_
    simp only [pickM]
    go_wp2_with fail
    refine hK0.out _ ?_
    clear hK0 K0
    refine st_act fun K2 hK2 => ?_
    simp only [pickM]
    go_wp2_with fail
    refine (leafhash_any _ M.out.at_.t b D m cd ldm hmc (by omega) HD.out.2 (HD.out.1.below M.out.at_.b)).mono ?_
    rintro e x21 ⟨rfl, hBelow⟩
    have M := Lib.hid (M.out.step hBelow)
    go_wp2_with fail
    refine hK2.out _ _ hBelow ?_
    clear hK2 K2 hBelow
    refine st_last fun K2 hK2 => ?_
    simp only [pickM]
    go_wp2_with fail
    refine (rleaf_any _ b D m cd ldm hmc (by omega) HD.out.2 (HD.out.1.below M.out.at_.b)).mono ?_
    rintro e x22 ⟨rfl, B6⟩
    have M := Lib.hid (M.out.step B6)
    clear B6
    have la := load25_run M.out.a hla
    have lb := load25_run M.out.b hlb
    go_wp2_with fail
    refine hK2.out _ _ ?_
    clear hK2 K2
    refine st_look fun K0 hK0 => ?_
    simp only [pickM]
    go_wp2_with fail
    refine hK0.out _ ?_
    clear hK0 K0
    refine st_fork (fun K2 hK2 => ?_) ?_
    · simp only [pickM]
      go_wp2_with fail
      refine (nodehash_any _ M.out.at_.t al bl hla hlb HZ.out.1 HZ.out.2).mono ?_
      rintro e x23 ⟨rfl, hBelow⟩
      have M := Lib.hid (M.out.step hBelow)
      go_wp2_with fail
      refine hK2.out _ _ hBelow ?_
      clear hK2 K2 hBelow
      refine st_act fun K2 hK2 => ?_
      simp only [pickM]
      go_wp2_with fail
      obtain ⟨x24, hx⟩ : ∃ X, X = World.alloc x23 (.cells #[.int .u8 1] 5) := ⟨_, rfl⟩
      rw [← hx]
      have hBelow : Below x23.heap.size x23 x24 := by rw [hx]; exact (Below.refl _ _).alloc (Nat.le_refl _) _
      have hga : ga + 1 < x23.heap.size := M.out.b.lt
      have hbt : gt < x23.heap.size := M.out.t.lt
      have hbw : w.heap.size ≤ x23.heap.size := M.out.at_.le
      have hbn : x23.heap.size ≤ x24.heap.size := hBelow.size
      have E2 := Lib.hid (show Blk x24 x23.heap.size 5 (u8s [1]) by rw [hx]; exact Blk.new x23 5 _)
      have M := Lib.hid (M.out.step hBelow)
      clear hx
      go_wp2_with fail
      refine hK2.out _ _ hBelow ?_
      clear hK2 K2 hBelow
      refine st_act fun K2 hK2 => ?_
      simp only [pickM]
      refine wpList_unguard rfl (wpList_app8G rfl (.tmp 41) (.tmp 42) rfl x23.heap.size 1 rfl E2.out ga al rfl M.out.a hla ?_)
      intro A3 c3 x25 O3 hBelow
      have O3 := Lib.hid O3
      have hga : ga + 1 < x24.heap.size := M.out.b.lt
      have hbt : gt < x24.heap.size := M.out.t.lt
      have hbw : w.heap.size ≤ x24.heap.size := M.out.at_.le
      have hbn : x24.heap.size ≤ x25.heap.size := hBelow.size
      have M := Lib.hid (M.out.step hBelow)
      clear E2
      go_wp2_with fail
      refine hK2.out _ _ hBelow ?_
      clear hK2 K2 hBelow
      refine st_last fun K2 hK2 => ?_
      simp only [pickM]
      refine wpList_unguard rfl (wpList_app8 rfl (.tmp 43) (.tmp 44) rfl x24.heap.size A3 33 c3 (1 :: al) rfl O3.out (some ⟨ga + 1, 0, none⟩) 32 32 bl rfl hlb M.out.b.rw (by omega) hbn ?_)
      intro A4 c4 x26 O4 B4 _
      have M := Lib.hid (M.out.stepB B4 hga hbt hbw)
      have O4 := Lib.hid O4
      clear B4 O3 hga hbt hbw hbn
      go_wp2_with fail
      refine hK2.out _ _ ?_
      clear hK2 K2
      refine st_last fun K2 hK2 => ?_
      simp only [pickM]
      go_wp2_with fail
      have hs := sum_any _ M.out.at_.t (1 :: (al ++ bl)) A4 c4 (by have := O4.out.cap_le; rw [List.length_cons, List.length_append, hla, hlb]; omega) (bytes_cons (x := 1) (by decide) (Bytes.of_mem (fun x hx => (List.mem_append.1 hx).elim (HZ.out.1.mem x) (HZ.out.2.mem x)))) (OB.rw O4.out |>.rb (Nat.le_refl _)) (by rw [List.length_cons, List.length_append, hla, hlb]; omega)
      rw [show (1 :: (al ++ bl)).length = 65 by rw [List.length_cons, List.length_append, hla, hlb]] at hs
      have hs : Calls Tryd.prog 20 #[.slice A4 65 c4] x26 (fun e w' => e = .returned (.agg (u8s (nodeL al bl))) ∧ Below x26.heap.size x26 w') := hs
      refine hs.mono ?_
      clear hs
      rintro e x27 ⟨rfl, B5⟩
      have M := Lib.hid (M.out.step B5)
      clear B5 O4
      go_wp2_with fail
      refine hK2.out _ _ ?_
      clear hK2 K2
      refine st_look fun K0 hK0 => ?_
      simp only [pickM]
      go_wp2_with fail
      refine hK0.out _ ?_
      clear hK0 K0
      change Exit.then _ _ _ _ _
      go_wp2_with fail
      go_ret
      exact ⟨rfl, M.out.at_.b⟩
    · refine st_act fun K2 hK2 => ?_
      simp only [pickM]
      go_wp2_with fail
      obtain ⟨x28, hx⟩ : ∃ X, X = World.alloc x22 (.cells #[.int .u8 1] 5) := ⟨_, rfl⟩
      rw [← hx]
      have hBelow : Below x22.heap.size x22 x28 := by rw [hx]; exact (Below.refl _ _).alloc (Nat.le_refl _) _
      have hga : ga + 1 < x22.heap.size := M.out.b.lt
      have hbt : gt < x22.heap.size := M.out.t.lt
      have hbw : w.heap.size ≤ x22.heap.size := M.out.at_.le
      have hbn : x22.heap.size ≤ x28.heap.size := hBelow.size
      have E2 := Lib.hid (show Blk x28 x22.heap.size 5 (u8s [1]) by rw [hx]; exact Blk.new x22 5 _)
      have M := Lib.hid (M.out.step hBelow)
      clear hx
      go_wp2_with fail
      refine hK2.out _ _ hBelow ?_
      clear hK2 K2 hBelow
      refine st_act fun K2 hK2 => ?_
      simp only [pickM]
      go_wp2_with fail
      refine (nodehash_any _ M.out.at_.t al bl hla hlb HZ.out.1 HZ.out.2).mono ?_
      rintro e x29 ⟨rfl, hBelow⟩
      have M := Lib.hid (M.out.step hBelow)
      have E2 := Lib.hid (E2.out.below hBelow E2.out.lt)
      go_wp2_with fail
      refine hK2.out _ _ hBelow ?_
      clear hK2 K2 hBelow
      refine st_act fun K2 hK2 => ?_
      simp only [pickM]
      refine wpList_unguard rfl (wpList_app8G rfl (.tmp 41) (.tmp 42) rfl x22.heap.size 1 rfl E2.out ga al rfl M.out.a hla ?_)
      intro A3 c3 x30 O3 hBelow
      have O3 := Lib.hid O3
      have hga : ga + 1 < x29.heap.size := M.out.b.lt
      have hbt : gt < x29.heap.size := M.out.t.lt
      have hbw : w.heap.size ≤ x29.heap.size := M.out.at_.le
      have hbn : x29.heap.size ≤ x30.heap.size := hBelow.size
      have M := Lib.hid (M.out.step hBelow)
      clear E2
      go_wp2_with fail
      refine hK2.out _ _ hBelow ?_
      clear hK2 K2 hBelow
      refine st_last fun K2 hK2 => ?_
      simp only [pickM]
      refine wpList_unguard rfl (wpList_app8 rfl (.tmp 43) (.tmp 44) rfl x29.heap.size A3 33 c3 (1 :: al) rfl O3.out (some ⟨ga + 1, 0, none⟩) 32 32 bl rfl hlb M.out.b.rw (by omega) hbn ?_)
      intro A4 c4 x31 O4 B4 _
      have M := Lib.hid (M.out.stepB B4 hga hbt hbw)
      have O4 := Lib.hid O4
      clear B4 O3 hga hbt hbw hbn
      go_wp2_with fail
      refine hK2.out _ _ ?_
      clear hK2 K2
      refine st_last fun K2 hK2 => ?_
      simp only [pickM]
      go_wp2_with fail
      have hs := sum_any _ M.out.at_.t (1 :: (al ++ bl)) A4 c4 (by have := O4.out.cap_le; rw [List.length_cons, List.length_append, hla, hlb]; omega) (bytes_cons (x := 1) (by decide) (Bytes.of_mem (fun x hx => (List.mem_append.1 hx).elim (HZ.out.1.mem x) (HZ.out.2.mem x)))) (OB.rw O4.out |>.rb (Nat.le_refl _)) (by rw [List.length_cons, List.length_append, hla, hlb]; omega)
      rw [show (1 :: (al ++ bl)).length = 65 by rw [List.length_cons, List.length_append, hla, hlb]] at hs
      have hs : Calls Tryd.prog 20 #[.slice A4 65 c4] x31 (fun e w' => e = .returned (.agg (u8s (nodeL al bl))) ∧ Below x31.heap.size x31 w') := hs
      refine hs.mono ?_
      clear hs
      rintro e x32 ⟨rfl, B5⟩
      have M := Lib.hid (M.out.step B5)
      clear B5 O4
      go_wp2_with fail
      refine hK2.out _ _ ?_
      clear hK2 K2
      refine st_look fun K0 hK0 => ?_
      simp only [pickM]
      go_wp2_with fail
      refine hK0.out _ ?_
      clear hK0 K0
      change Exit.then _ _ _ _ _
      go_wp2_with fail
      go_ret
      exact ⟨rfl, M.out.at_.b⟩
end Go.Proofs.YtediocpdpghbfaaDoor
