/- The reference's root. -/
import Derived.Test.YtediocpdpghbfaaDoorMulw
import Derived.OwnWalk
set_option linter.unusedSimpArgs false
set_option linter.unusedVariables false
namespace Go.Proofs.YtediocpdpghbfaaDoor
open Go Go.RowKit

theorem own_of_blk {w : World} {g n base : Nat} {e : TypeId} {cs : Array Value} (h : Blk w g e cs) (hn : cs.size = n) (hb : base ≤ g) (hm : n ≤ maxLen) :
    w.ownsRow base e 1 (.slice (some ⟨g, 0, none⟩) n n) n cs.toList :=
  ⟨by simp [hn], .inr ⟨g, n, cs, rfl, hb, h, Nat.le_refl _, hm, by omega, by rw [List.take_of_length_le (by simp; omega)]⟩⟩
def u64v (l : List Nat) : List Value := l.map fun n : Nat => Value.int .u64 (n : Int)
theorem u64s_toList (l : List Nat) : (u64s l).toList = u64v l := rfl
theorem u64v_length (l : List Nat) : (u64v l).length = l.length := by simp [u64v]
theorem u64v_append (l r : List Nat) : u64v (l ++ r) = u64v l ++ u64v r := by simp [u64v]
theorem rd_of_own {w : World} {g cap n base : Nat} {e : TypeId} {l : List Nat} (h : w.ownsRow base e 1 (.slice (some ⟨g, 0, none⟩) n cap) n (u64v l)) (hg : g < w.heap.size) : RD w g l := by
  refine ⟨hg, fun j hj => ?_⟩
  have := h.cells (g := g) rfl j (.int .u64 (l.getD j 0 : Nat)) (by simp [u64v, List.getElem?_eq_getElem hj, List.getD_eq_getElem?_getD])
  rwa [addr_add, Nat.zero_add] at this

theorem powL_step (y n : Nat) (pw o : List Nat) (h : powL y (n + 1) pw = some o) : ∃ pw', mulL pw (ofL y) = some pw' ∧ powL y n pw' = some o := by
  rw [powL] at h
  cases hm : mulL pw (ofL y) with
  | none => rw [hm] at h; cases h
  | some pw' => rw [hm] at h; exact ⟨pw', rfl, h⟩
theorem rootL_step (most : List Nat) (k n x r : Nat) (h : rootL most k (n + 1) x = some r) :
    ∃ pw, powL (x + 2 ^ n) (k - 1) (ofL (x + 2 ^ n)) = some pw ∧ rootL most k n (if greaterL pw most then x else x + 2 ^ n) = some r := by
  rw [rootL] at h
  cases hm : powL (x + 2 ^ n) (k - 1) (ofL (x + 2 ^ n)) with
  | none => rw [hm] at h; cases h
  | some pw' => rw [hm] at h; exact ⟨pw', rfl, h⟩
theorem innerL_length (ai : Nat) (b : List Nat) (i : Nat) : ∀ (f k c : Nat) (o o' : List Nat), innerL ai b i f k c o = some o' → o'.length = o.length := by
  intro f
  induction f with
  | zero => intro k c o o' h; simp [innerL] at h
  | succ f ih =>
    intro k c o o' h
    rw [innerL] at h
    split at h
    · split at h
      · have := ih _ _ _ _ h; simpa using this
      · cases h
    · cases h; rfl
theorem outerL_length (a b : List Nat) (F : Nat) : ∀ (n i : Nat) (o o' : List Nat), outerL a b F n i o = some o' → o'.length = o.length := by
  intro n
  induction n with
  | zero => intro i o o' h; rw [outerL] at h; cases h; rfl
  | succ n ih =>
    intro i o o' h
    obtain ⟨o2, h1, h2⟩ := outer_step a b F n i o o' h
    rw [ih _ _ _ h2, innerL_length _ _ _ _ _ _ _ _ h1]
theorem mulL_length (a b o : List Nat) (h : mulL a b = some o) : o.length = a.length + b.length + 1 := by
  rw [mulL] at h; rw [outerL_length _ _ _ _ _ _ _ h]; simp

set_option maxRecDepth 100000 in
theorem root_any (p k r : Nat) (hp : p < 1000) (hk : k = 2 ∨ k = 3) (hr : rootOf p k = some r) (hrl : r < 18446744073709551616) (w : World) :
    Calls Tryd.prog 65 #[.int .u64 (p : Int), .int .i64 (k : Int)] w fun e w' => e = .returned (.int .u32 ((r % 4294967296 : Nat) : Int)) ∧ Below w.heap.size w w' := by
  obtain ⟨i0, hi0, hz0, hz1, hz2⟩ := info_parts info70
  have hmk := make_big (2 * k) (by omega)
  simp only [Int.natCast_mul, Int.cast_ofNat_Int] at hmk
  obtain ⟨z, hz⟩ : ∃ z : List Nat, List.replicate (2 * k) 0 = z := ⟨_, rfl⟩
  unfold rootOf at hr
  rw [hz] at hmk hr
  have hzl : z.length = 2 * k := by rw [← hz]; simp
  have hk23 : 2 ≤ k ∧ k ≤ 3 := by omega
  have hown : (w.alloc (.cells (u64s z) 70)).ownsRow w.heap.size 70 1 (.slice (some ⟨w.heap.size, 0, none⟩) (2 * k) (2 * k)) (2 * k) (u64v z) := by
    have := own_of_blk (base := w.heap.size) (Blk.new w 70 (u64s z)) (by rw [u64s_size, hzl]) (Nat.le_refl _) (n := 2 * k) (by unfold maxLen; omega)
    rwa [u64s_toList] at this
  have hnew : ∀ j u, [Value.int .u64 (p : Int)][j]? = some u → (((w.alloc (.cells (u64s z) 70)).alloc (.cells #[.int .u64 (p : Int)] 70))).cell? ((⟨w.heap.size + 1, 0, none⟩ : Addr).add j) = some u := by
    intro j u hj
    rw [addr_add, Nat.zero_add]
    have := (Blk.new1 w (.cells (u64s z) 70) 70 #[Value.int .u64 (p : Int)]).cell j
    rw [this]; simpa using hj
  have H0 := Lib.hid (And.intro hi0 (And.intro hz0 (And.intro hz1 (And.intro hz2 (And.intro hr (And.intro hzl (And.intro hown hnew))))))); clear hi0 hz0 hz1 hz2 hr hzl hown hnew hk hz
  go_enter Tryd.func65, Tryd.ntmps65
  go_wp2_with (at_builtin; refine wpList_append_own _ rfl (.tmp 13) (.tmp 15) 131 rfl w.heap.size 70 i0 (.int .u64 0) 1 8 Tryd.underlying131 H0.out.1 H0.out.2.1 H0.out.2.2.1 H0.out.2.2.2.1 rfl (by decide) _ _ _ rfl (H0.out.2.2.2.2.2.2.1.alloc _) ⟨w.heap.size + 1, 0, none⟩ 1 1 [.int .u64 (p : Int)] rfl rfl H0.out.2.2.2.2.2.2.2 (by simp [Value.oneCell']) (by unfold maxLen; omega) (by omega) (by simp; omega) ?_; intro v1 w1 hown1 hg1 hn1; have H1 := Lib.hid (And.intro hown1 (And.intro hg1 hn1)); clear hown1 hg1 hn1)
  obtain ⟨gm, cm, rfl, hgm, hgm2⟩ := H1.out.1.form (by omega)
  have B1 : Below w.heap.size w w1 := by
    refine Below.grown (((Below.refl _ _).alloc (Nat.le_refl _) _).alloc (by simp) _) H1.out.2.1 (by simp; omega) (fun q hq => ?_)
    have : q = w.heap.size := by simpa [Act.eval, Value.ownBlock] using hq.symm
    omega
  have R1 : RD w1 gm (z ++ [p]) := rd_of_own (by have := H1.out.1; rwa [show u64v z ++ [Value.int .u64 (p : Int)] = u64v (z ++ [p]) from by rw [u64v_append]; rfl] at this) hgm2
  have hrr := H0.out.2.2.2.2.1
  have hml : (z ++ [p]).length = 2 * k + 1 := by rw [List.length_append, H0.out.2.2.2.2.2.1]; rfl
  generalize z ++ [p] = most at *
  have H2 := Lib.hid (And.intro B1 (And.intro R1 (And.intro hrr hml))); clear B1 R1 hrr hml H1 H0 hmk
  go_wp2_with fail
  go_loopg [6, 7] 39 (fun f xv bv wr => ∃ n x : Nat, xv = .int .u64 x ∧ bv = .int .i64 ((n : Int) - 1) ∧ n ≤ 38 ∧ f = n + 1 ∧ x + 2 ^ n ≤ 274877906944 ∧ rootL most k n x = some r ∧ Below w.heap.size w wr ∧ RD wr gm most)
  case atStart => obtain ⟨B1, R1, hrr, hml⟩ := H2.out; exact ⟨38, 0, rfl, rfl, by omega, rfl, by omega, hrr, B1, R1⟩
  case round =>
    obtain ⟨n, x, rfl, rfl, hn, hf, hx, hrr, B1, R1⟩ := hrel
    obtain ⟨wo, rfl⟩ : ∃ wo : World, wo = wr := ⟨_, rfl⟩
    obtain ⟨ko, rfl⟩ : ∃ ko : Nat, ko = gk := ⟨_, rfl⟩
    cases n with
    | zero =>
      have hxr : x = r := by rw [rootL] at hrr; exact Option.some.inj hrr
      have HE := Lib.hid (And.intro hxr (And.intro hf B1)); clear hxr hf B1 R1 hrr hx H2
      go_wp2_with fail
      go_ret
      obtain ⟨hxr, hf, B1⟩ := HE.out
      subst hxr
      exact ⟨rfl, B1⟩
    | succ n =>
      obtain ⟨pw, hpw, hrr'⟩ := rootL_step most k n x r hrr
      clear hrr
      have hp2 : 2 ^ (n + 1) = 2 ^ n + 2 ^ n := by rw [Nat.pow_succ]; omega
      obtain ⟨q, hq⟩ : ∃ q, 2 ^ n = q := ⟨_, rfl⟩
      rw [hp2, hq] at hx
      rw [hq] at hpw hrr'
      have hqI : (2 : Int) ^ n = (q : Int) := by rw [← hq, Int.natCast_pow]; rfl
      obtain ⟨y, hy⟩ : ∃ y, x + q = y := ⟨_, rfl⟩
      rw [hy] at hpw hrr'
      have hyI : (x : Int) + (q : Int) = (y : Int) := by omega
      have hy64 : y < 18446744073709551616 := by omega
      have hx2 : x + q + q ≤ 274877906944 := by omega
      have hml := H2.out.2.2.2
      have HE := Lib.hid (And.intro hpw (And.intro hrr' (And.intro hf (And.intro B1 (And.intro R1 (And.intro hq hml)))))); clear hpw hrr' hf B1 R1 hp2 hq hy hml H2
      go_wp2_with fail
      refine (of_any y hy64 wo).mono ?_; rintro e w2 ⟨rfl, O1, O2⟩
      have HF := Lib.hid (And.intro O1 O2); clear O1 O2
      go_wp2_with fail
      go_loopg [9, 10] (k - 1) (fun f pv iv wr => ∃ (i : Nat) (pw1 : List Nat) (g1 c1 : Nat), pv = .slice (some ⟨g1, 0, none⟩) pw1.length c1 ∧ iv = .int .i64 i ∧ i + f = k ∧ pw1.length + 1 = 5 * i ∧ powL y f pw1 = some pw ∧
        RD wr g1 pw1 ∧ Below w.heap.size w wr ∧ RD wr gm most)
      case atStart =>
        obtain ⟨hpw, hrr', hf, B1, R1, hq, hml⟩ := HE.out
        obtain ⟨O1, O2⟩ := HF.out
        exact ⟨1, ofL y, wo.heap.size, 4, rfl, rfl, by omega, rfl, hpw, O1.rd, B1.trans (O2.mono B1.size), R1.below O2 R1.1⟩
      case round =>
        obtain ⟨i, pw1, g1, c1, rfl, rfl, hif, hpl, hpw1, RP, BP, RM⟩ := hrel
        by_cases hik : i < k
        · obtain ⟨f, rfl⟩ : ∃ f, gk = f + 1 := ⟨gk - 1, by omega⟩
          obtain ⟨pw2, hm2, hpw2⟩ := powL_step y f pw1 pw hpw1
          have hl2 := mulL_length _ _ _ hm2
          have hofl : (ofL y).length = 4 := rfl
          have HG := Lib.hid (And.intro hif (And.intro hpl (And.intro hm2 (And.intro hpw2 (And.intro RP (And.intro BP RM)))))); clear hif hpl hm2 hpw2 RP BP RM hpw1
          have HL := Lib.hid (And.intro hl2 hofl); clear hl2 hofl
          go_wp2_with fail
          refine (of_any y hy64 wr).mono ?_; rintro e w3 ⟨rfl, P1, P2⟩
          have HP := Lib.hid (And.intro P1 P2); clear P1 P2
          go_wp2_with fail
          refine (mul_any pw1 (ofL y) pw2 g1 wr.heap.size c1 4 w3 (HG.out.2.2.2.2.1.below HP.out.2 HG.out.2.2.2.2.1.1) HP.out.1.rd (by have := HG.out.2.1; have := HG.out.1; omega) (by rw [HL.out.2]; omega) HG.out.2.2.1).mono ?_
          rintro e w4 ⟨rfl, M1, M2⟩
          have HM := Lib.hid (And.intro M1 M2); clear M1 M2
          go_wp2_with fail
          go_roundg f
          case measure => omega
          case rel =>
            obtain ⟨hif, hpl, hm2, hpw2, RP, BP, RM⟩ := HG.out
            obtain ⟨P1, P2⟩ := HP.out
            obtain ⟨M1, M2⟩ := HM.out
            have hl2 := HL.out.1
            have e4 : (ofL y).length = 4 := rfl
            refine ⟨i + 1, pw2, w3.heap.size, pw1.length + 4 + 1, by rw [hl2]; rfl, by go_num, by omega, by rw [hl2, e4]; omega, hpw2, M1.rd, BP.trans ((P2.mono BP.size).trans (M2.mono (Nat.le_trans BP.size P2.size))), (RM.below P2 RM.1).below M2 (Nat.lt_of_lt_of_le RM.1 P2.size)⟩
        · obtain rfl : i = k := by omega
          obtain rfl : gk = 0 := by omega
          have hpp : pw1 = pw := by rw [powL] at hpw1; exact Option.some.inj hpw1
          subst hpp
          obtain ⟨gr, hgr⟩ : ∃ gr, greaterL pw1 most = gr := ⟨_, rfl⟩
          have hml := HE.out.2.2.2.2.2.2
          have HG := Lib.hid (And.intro hpl (And.intro RP (And.intro BP (And.intro RM hml)))); clear hif hpl RP BP RM hpw1 hik hml
          go_wp2_with fail
          rw [← HG.out.2.2.2.2]
          refine (greater_any pw1 most g1 gm c1 cm wr HG.out.2.1 HG.out.2.2.2.1 (by have := HG.out.1; omega) (by have := HG.out.2.2.2.2; omega)).mono ?_
          rintro e w5 ⟨rfl, rfl⟩
          rw [hgr, HG.out.2.2.2.2]
          have HGR := Lib.hid hgr; clear hgr
          cases gr
          · go_wp2_with fail
            go_roundg (n + 1)
            case measure => have := HE.out.2.2.1; omega
            case rel =>
              obtain ⟨hpw, hrr', hf, B1, R1, hq, hml⟩ := HE.out
              obtain ⟨hpl, RP, BP, RM, hml2⟩ := HG.out
              rw [HGR.out] at hrr'
              exact ⟨n, y, rfl, by go_num, by omega, rfl, by rw [hq]; omega, by simpa using hrr', BP, RM⟩
          · go_wp2_with fail
            go_roundg (n + 1)
            case measure => have := HE.out.2.2.1; omega
            case rel =>
              obtain ⟨hpw, hrr', hf, B1, R1, hq, hml⟩ := HE.out
              obtain ⟨hpl, RP, BP, RM, hml2⟩ := HG.out
              rw [HGR.out] at hrr'
              exact ⟨n, x, rfl, by go_num, by omega, rfl, by rw [hq]; omega, by simpa using hrr', BP, RM⟩
end Go.Proofs.YtediocpdpghbfaaDoor
