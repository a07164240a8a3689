/- The reference's mul. -/
import Derived.Test.YtediocpdpghbfaaDoorBigw
import Derived.RegionTactic
set_option linter.unusedSimpArgs false
set_option linter.unusedVariables false
namespace Go.Proofs.YtediocpdpghbfaaDoor
open Go Go.RowKit

theorem info70 : (Tryd.prog.info? 70).map (fun i => (i.zero, i.size, i.bytes)) = some (some (.int .u64 0), 1, 8) := by kernel_rfl
theorem madeCells_u64 (n : Nat) : madeCells (Value.int .u64 0).cells n = u64s (List.replicate n 0) := by
  unfold madeCells u64s
  apply Array.ext'
  simp [Value.cells, Nat.mod_one, List.map_const']
theorem make_big (n : Nat) (hn : n ≤ 4294967296) (w : World) :
    (Instr.makeSlice 131 (.int .i64 (n : Int)) (.int .i64 (n : Int))).run Tryd.prog w = .ok (.slice (some ⟨w.heap.size, 0, none⟩) n n) (w.alloc (.cells (u64s (List.replicate n 0)) 70)) := by
  obtain ⟨i, hi, hz, hs, hb⟩ := info_parts info70
  have := run_make_rowN (P := Tryd.prog) 131 70 i _ Tryd.underlying131 hi hz .i64 .i64 n n (Nat.le_refl _) (by rw [hb]; omega) (by omega) w
  rwa [hs, Nat.mul_one, madeCells_u64] at this

theorem inner_step (ai : Nat) (b : List Nat) (i f k c : Nat) (o o' : List Nat) (h : innerL ai b i f k c o = some o') :
    ∃ f', f = f' + 1 ∧ ((k < b.length ∨ 0 < c) → i + k < o.length ∧ o.getD (i + k) 0 + c + ai * b.getD k 0 < 18446744073709551616 ∧
      innerL ai b i f' (k + 1) ((o.getD (i + k) 0 + c + ai * b.getD k 0) / 65536) (o.set (i + k) ((o.getD (i + k) 0 + c + ai * b.getD k 0) % 65536)) = some o') ∧
      (¬ (k < b.length ∨ 0 < c) → o = o') := by
  cases f with
  | zero => simp [innerL] at h
  | succ f =>
    refine ⟨f, rfl, fun hgo => ?_, fun hno => ?_⟩
    · rw [innerL, if_pos hgo] at h
      by_cases hr : i + k < o.length ∧ o.getD (i + k) 0 + c + ai * b.getD k 0 < 18446744073709551616
      · rw [if_pos hr] at h; exact ⟨hr.1, hr.2, h⟩
      · rw [if_neg hr] at h; cases h
    · rw [innerL, if_neg hno] at h; exact Option.some.inj h
theorem outer_step (a b : List Nat) (F n i : Nat) (o o' : List Nat) (h : outerL a b F (n + 1) i o = some o') :
    ∃ o2, innerL (a.getD i 0) b i F 0 0 o = some o2 ∧ outerL a b F n (i + 1) o2 = some o' := by
  rw [outerL] at h
  cases hi : innerL (a.getD i 0) b i F 0 0 o with
  | none => rw [hi] at h; cases h
  | some o2 => rw [hi] at h; exact ⟨o2, rfl, h⟩

set_option maxRecDepth 100000 in
theorem mul_any (a b o : List Nat) (ga gb ca cb : Nat) (w : World) (ha : RD w ga a) (hb : RD w gb b) (hla : a.length ≤ 1000) (hlb : b.length ≤ 1000) (ho : mulL a b = some o) :
    Calls Tryd.prog 88 #[.slice (some ⟨ga, 0, none⟩) a.length ca, .slice (some ⟨gb, 0, none⟩) b.length cb] w fun e w' =>
      e = .returned (.slice (some ⟨w.heap.size, 0, none⟩) (a.length + b.length + 1) (a.length + b.length + 1)) ∧ Blk w' w.heap.size 70 (u64s o) ∧ Below w.heap.size w w' := by
  obtain ⟨la, hla'⟩ : ∃ la, a.length = la := ⟨_, rfl⟩
  obtain ⟨lb, hlb'⟩ : ∃ lb, b.length = lb := ⟨_, rfl⟩
  have hmk := make_big (la + lb + 1) (by omega)
  simp only [Int.natCast_add, Int.cast_ofNat_Int] at hmk
  unfold mulL at ho
  rw [hla', hlb'] at ho ⊢
  rw [hla'] at hla
  rw [hlb'] at hlb
  obtain ⟨z, hz⟩ : ∃ z : List Nat, List.replicate (la + lb + 1) 0 = z := ⟨_, rfl⟩
  rw [hz] at ho hmk
  have H0 := Lib.hid (And.intro ha (And.intro hb (And.intro ho (And.intro hla' (And.intro hlb' hz))))); clear ha hb ho hla' hlb' hz
  go_enter Tryd.func88, Tryd.ntmps88
  go_wp2_with fail
  go_loopg [6] la (fun n v wr => ∃ (i : Nat) (o1 : List Nat), v = .int .i64 i ∧ i + n = la ∧ o1.length = la + lb + 1 ∧ outerL a b (la + lb + 2) n i o1 = some o ∧ Blk wr w.heap.size 70 (u64s o1) ∧ Below w.heap.size w wr)
  case atStart => exact ⟨0, z, rfl, by omega, by rw [← H0.out.2.2.2.2.2]; simp, H0.out.2.2.1, Blk.new _ _ _, (Below.refl _ _).alloc (Nat.le_refl _) _⟩
  case round =>
    obtain ⟨i, o1, rfl, hin, hol, hou, E, B0⟩ := hrel
    obtain ⟨wo, rfl⟩ : ∃ wo : World, wo = wr := ⟨_, rfl⟩
    obtain ⟨ko, rfl⟩ : ∃ ko : Nat, ko = gk := ⟨_, rfl⟩
    by_cases hlt : i < la
    · obtain ⟨n, rfl⟩ : ∃ n, ko = n + 1 := ⟨ko - 1, by omega⟩
      obtain ⟨o2, hinn, hout⟩ := outer_step a b _ n i o1 o hou
      have HO := Lib.hid (And.intro hinn (And.intro hout (And.intro E B0))); clear hinn hout E B0 hou
      have HN := Lib.hid hin; clear hin
      go_wp2_with fail
      go_loopg [7, 8] (la + lb + 2) (fun f cv kv wr => ∃ (k c : Nat) (o1 : List Nat), cv = .int .u64 c ∧ kv = .int .i64 k ∧ innerL (a.getD i 0) b i f k c o1 = some o2 ∧ k ≤ la + lb + 1 ∧ o1.length = la + lb + 1 ∧ Blk wr w.heap.size 70 (u64s o1) ∧ Below w.heap.size w wr)
      case atStart => obtain ⟨hinn, hout, E, B0⟩ := HO.out; exact ⟨0, 0, o1, rfl, rfl, hinn, by omega, hol, E, B0⟩
      case round =>
        obtain ⟨k, c, o3, rfl, rfl, hinn, hik, hol3, E, B0⟩ := hrel
        obtain ⟨f, hf, hgo, hno⟩ := inner_step _ b i gk k c o3 o2 hinn
        clear hinn
        have da := (B0.cell (p := ⟨ga, i, none⟩) H0.out.1.1).trans (H0.out.1.2 i (by rw [H0.out.2.2.2.1]; exact hlt))
        generalize hai : a.getD i 0 = ai at *
        by_cases hk : k < lb
        · obtain ⟨g1, g2, g3⟩ := hgo (.inl (by rw [H0.out.2.2.2.2.1]; exact hk))
          have db := (B0.cell (p := ⟨gb, k, none⟩) H0.out.2.1.1).trans (H0.out.2.1.2 k (by rw [H0.out.2.2.2.2.1]; exact hk))
          have dx := (E.cell (i + k)).trans (u64s_at _ _ g1)
          have fx := E.frozen (i + k)
          generalize b.getD k 0 = bk at *
          generalize o3.getD (i + k) 0 = x at *
          obtain ⟨P, hP⟩ : ∃ P, ai * bk = P := ⟨_, rfl⟩
          rw [hP] at g2 g3
          have hPI : (ai : Int) * (bk : Int) = (P : Int) := by rw [← hP, Int.natCast_mul]
          obtain ⟨t, ht⟩ : ∃ t, x + c + P = t := ⟨_, rfl⟩
          rw [ht] at g3
          have g1' : i + k < la + lb + 1 := by omega
          have HE := Lib.hid (And.intro E (And.intro B0 (And.intro g3 (And.intro hf (And.intro hol3 (And.intro ht hai)))))); clear E B0 g3 hgo hno hf hol3 ht hP hai g1
          go_wp2_with fail
          go_region
          go_wp2_with fail
          go_roundg f
          case measure => have := HE.out.2.2.2.1; omega
          case rel =>
            obtain ⟨E, B0, g3, hf, hol3, ht, hai⟩ := HE.out
            have e1 : ((x : Int) + c + P) % 65536 = ((t % 65536 : Nat) : Int) := by omega
            have e2 : ((x : Int) + c + P) / 65536 = ((t / 65536 : Nat) : Int) := by omega
            rw [e1, e2]
            exact ⟨k + 1, t / 65536, o3.set (i + k) (t % 65536), rfl, by go_num, g3, by omega, by simpa using hol3, (E.drew).set64 _ _ rfl, (B0.drew).setCell (by simp) _⟩
        · by_cases hc : 0 < c
          · obtain ⟨g1, g2, g3⟩ := hgo (.inr hc)
            have hbk : b.getD k 0 = 0 := by
              rw [List.getD_eq_getElem?_getD, List.getElem?_eq_none (by rw [H0.out.2.2.2.2.1]; omega)]; rfl
            rw [hbk, Nat.mul_zero, Nat.add_zero] at g2 g3
            have dx := (E.cell (i + k)).trans (u64s_at _ _ g1)
            have fx := E.frozen (i + k)
            generalize o3.getD (i + k) 0 = x at *
            obtain ⟨t, ht⟩ : ∃ t, x + c = t := ⟨_, rfl⟩
            rw [ht] at g3
            have g1' : i + k < la + lb + 1 := by omega
            have tk : decide (k < lb) = false := by simpa using hk
            have HE := Lib.hid (And.intro E (And.intro B0 (And.intro g3 (And.intro hf (And.intro hol3 (And.intro ht hai)))))); clear E B0 g3 hgo hno hf hol3 ht hai g1 hbk
            go_wp2_with fail
            go_roundg f
            case measure => have := HE.out.2.2.2.1; omega
            case rel =>
              obtain ⟨E, B0, g3, hf, hol3, ht, hai⟩ := HE.out
              have e1 : ((x : Int) + c) % 65536 = ((t % 65536 : Nat) : Int) := by omega
              have e2 : ((x : Int) + c) / 65536 = ((t / 65536 : Nat) : Int) := by omega
              rw [e1, e2]
              exact ⟨k + 1, t / 65536, o3.set (i + k) (t % 65536), rfl, by go_num, g3, by omega, by simpa using hol3, E.set64 _ _ rfl, B0.setCell (by simp) _⟩
          · obtain rfl : c = 0 := by omega
            obtain rfl := hno (by rw [H0.out.2.2.2.2.1]; omega)
            have tk : decide (k < lb) = false := by simpa using hk
            have HE := Lib.hid (And.intro E (And.intro B0 (And.intro hol3 hai))); clear E B0 hgo hno hf hol3 hai hc
            go_wp2_with fail
            go_roundg n
            case measure => omega
            case rel =>
              obtain ⟨E, B0, hol3, hai⟩ := HE.out
              obtain ⟨hinn, hout, _, _⟩ := HO.out
              exact ⟨i + 1, o3, by go_num, by have := HN.out; omega, hol3, hout, E, B0⟩
    · obtain rfl : i = la := by omega
      obtain rfl : ko = 0 := by omega
      have hoo : o1 = o := by rw [outerL] at hou; exact Option.some.inj hou
      have HE := Lib.hid (And.intro E (And.intro B0 hoo)); clear E B0 hoo hou hin hol
      go_wp2_with fail
      go_ret
      obtain ⟨E, B0, hoo⟩ := HE.out
      rw [← hoo]
      exact ⟨rfl, E, B0⟩
end Go.Proofs.YtediocpdpghbfaaDoor
