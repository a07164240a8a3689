/- The reference's big numbers: digit, of, mul, greater. -/
import Derived.Test.YtediocpdpghbfaaDoorRootspec
import Derived.Test.YtediocpdpghbfaaDoorPadw
set_option linter.unusedSimpArgs false
set_option linter.unusedVariables false
namespace Go.Proofs.YtediocpdpghbfaaDoor
open Go Go.RowKit

def u64s (l : List Nat) : Array Value := (l.map fun n : Nat => Value.int .u64 (n : Int)).toArray
theorem u64s_size (l : List Nat) : (u64s l).size = l.length := by simp [u64s]
theorem u64s_at (l : List Nat) (i : Nat) (h : i < l.length) : (u64s l)[i]? = some (.int .u64 (l.getD i 0 : Nat)) := by
  simp [u64s, List.getElem?_eq_getElem h, List.getD_eq_getElem?_getD]
theorem u64s_set (l : List Nat) (i n : Nat) : (u64s l).setIfInBounds i (.int .u64 (n : Int)) = u64s (l.set i n) := by simp [u64s, List.map_set]
/-- block g holds, from its head on, the digits l -/
def RD (w : World) (g : Nat) (l : List Nat) : Prop := g < w.heap.size ∧ ∀ j, j < l.length → w.cell? ⟨g, j, none⟩ = some (.int .u64 (l.getD j 0 : Nat))
theorem RD.below {w w' : World} {g B : Nat} {l : List Nat} (h : RD w g l) (hb : Below B w w') (hg : g < B) : RD w' g l :=
  ⟨Nat.lt_of_lt_of_le h.1 hb.size, fun j hj => (hb.cell (p := ⟨g, j, none⟩) hg).trans (h.2 j hj)⟩
theorem Blk.rd {w : World} {g : Nat} {t : TypeId} {l : List Nat} (h : Blk w g t (u64s l)) : RD w g l := ⟨h.lt, fun j hj => (h.cell j).trans (u64s_at l j hj)⟩
theorem Blk.set64 {w : World} {g : Nat} {t : TypeId} {l l' : List Nat} (h : Blk w g t (u64s l)) (i x : Nat) (hl : l.set i x = l') : Blk (w.setCell ⟨g, i, none⟩ (.int .u64 (x : Int))) g t (u64s l') := by
  have := h.set_ i (.int .u64 (x : Int)); rwa [u64s_set, hl] at this

theorem digit_any (l : List Nat) (g cap i : Nat) (w : World) (hr : RD w g l) (hi : i ≤ 4611686018427387904) (hl : l.length ≤ 4611686018427387904) :
    Calls Tryd.prog 92 #[.slice (some ⟨g, 0, none⟩) l.length cap, .int .i64 (i : Int)] w fun e w' => e = .returned (.int .u64 (l.getD i 0 : Nat)) ∧ w = w' := by
  by_cases h : i < l.length
  · have c := hr.2 i h
    generalize l.getD i 0 = x at *
    generalize l.length = n at *
    clear hr
    go_enter Tryd.func92, Tryd.ntmps92
    go_wp2_with fail
    go_ret
    exact ⟨rfl, rfl⟩
  · have e : l.getD i 0 = 0 := by rw [List.getD_eq_getElem?_getD, List.getElem?_eq_none (by omega)]; rfl
    rw [e]
    have h' : decide (i < l.length) = false := by simpa using h
    generalize l.length = n at *
    clear hr e
    go_enter Tryd.func92, Tryd.ntmps92
    go_wp2_with fail
    go_ret
    exact ⟨rfl, rfl⟩

theorem of_any (n : Nat) (hn : n < 18446744073709551616) (w : World) :
    Calls Tryd.prog 87 #[.int .u64 (n : Int)] w fun e w' => e = .returned (.slice (some ⟨w.heap.size, 0, none⟩) 4 4) ∧ Blk w' w.heap.size 70 (u64s (ofL n)) ∧ Below w.heap.size w w' := by
  go_enter Tryd.func87, Tryd.ntmps87
  go_wp2_with fail
  go_ret
  refine ⟨rfl, ?_, (Below.refl _ _).alloc (Nat.le_refl _) _⟩
  have := Blk.new w 70 (u64s (ofL n))
  simp only [ofL, u64s, List.map_cons, List.map_nil, Int.natCast_emod, Int.natCast_ediv] at this
  exact this

theorem greater_any (a b : List Nat) (ga gb ca cb : Nat) (w : World) (ha : RD w ga a) (hb : RD w gb b) (hla : a.length ≤ 1000) (hlb : b.length ≤ 1000) :
    Calls Tryd.prog 89 #[.slice (some ⟨ga, 0, none⟩) a.length ca, .slice (some ⟨gb, 0, none⟩) b.length cb] w fun e w' => e = .returned (.bool (greaterL a b)) ∧ w = w' := by
  have HR := Lib.hid (And.intro ha hb); clear ha hb
  obtain ⟨r, hr⟩ : ∃ r, greaterL a b = r := ⟨_, rfl⟩
  rw [hr]
  unfold greaterL at hr
  have HG := Lib.hid hr; clear hr
  go_enter Tryd.func89, Tryd.ntmps89
  go_wp2_with fail
  go_loopg [5] (a.length + b.length + 2) (fun k v wr => ∃ n : Int, v = .int .i64 n ∧ -1 ≤ n ∧ n ≤ a.length + b.length ∧ k = (n + 2).toNat ∧ gtL a b (n + 1).toNat = r ∧ wr = w)
  case atStart => exact ⟨a.length + b.length, rfl, by omega, by omega, by omega, by rw [← HG.out]; congr 1, rfl⟩
  case round =>
    obtain ⟨n, rfl, h1, h2, hk, hg, rfl⟩ := hrel
    have HK := Lib.hid (And.intro hk hg); clear hk hg HG
    by_cases h0 : 0 ≤ n
    · obtain ⟨n, rfl⟩ := Int.eq_ofNat_of_zero_le h0
      have da := fun W (h : RD W ga a) => digit_any a ga ca n W h (by omega) (by omega)
      have db := fun W (h : RD W gb b) => digit_any b gb cb n W h (by omega) (by omega)
      generalize hx : a.getD n 0 = x at *
      generalize hy : b.getD n 0 = y at *
      have HD := Lib.hid (And.intro da (And.intro db (And.intro hx hy))); clear da db hx hy
      by_cases hxy : x = y
      · subst hxy
        go_wp2_with fail
        refine (HD.out.1 _ HR.out.1).mono ?_; rintro e w' ⟨rfl, rfl⟩
        go_wp2_with fail
        refine (HD.out.2.1 _ HR.out.2).mono ?_; rintro e w' ⟨rfl, rfl⟩
        go_wp2_with fail
        go_roundg (gk - 1)
        case measure => have := HK.out.1; omega
        case rel =>
          obtain ⟨hk, hg⟩ := HK.out
          refine ⟨(n : Int) - 1, rfl, by omega, by omega, by omega, ?_, rfl⟩
          rw [← hg, show ((n : Int) + 1).toNat = n + 1 by omega, show ((n : Int) - 1 + 1).toNat = n by omega, gtL, if_pos (by rw [HD.out.2.2.1, HD.out.2.2.2])]
      · have t : ((x : Int) != (y : Int)) = true := by rw [bne_iff_ne]; omega
        have hr : decide (y < x) = r := by
          rw [← HK.out.2, show ((n : Int) + 1).toNat = n + 1 by omega, gtL, if_neg (by rw [HD.out.2.2.1, HD.out.2.2.2]; exact hxy), HD.out.2.2.1, HD.out.2.2.2]
        have HRR := Lib.hid hr; clear hr
        go_wp2_with fail
        refine (HD.out.1 _ HR.out.1).mono ?_; rintro e w' ⟨rfl, rfl⟩
        go_wp2_with fail
        refine (HD.out.2.1 _ HR.out.2).mono ?_; rintro e w' ⟨rfl, rfl⟩
        go_wp2_with fail
        refine (HD.out.1 _ HR.out.1).mono ?_; rintro e w' ⟨rfl, rfl⟩
        go_wp2_with fail
        refine (HD.out.2.1 _ HR.out.2).mono ?_; rintro e w' ⟨rfl, rfl⟩
        go_wp2_with fail
        go_ret
        refine ⟨?_, rfl⟩
        rw [← HRR.out]
        simp
    · obtain rfl : n = -1 := by omega
      go_wp2_with fail
      go_ret
      have := HK.out.2
      simp [gtL] at this
      rw [← this]
      exact ⟨rfl, rfl⟩
end Go.Proofs.YtediocpdpghbfaaDoor
