/- The reference's Primes and Make. -/
import Derived.Test.YtediocpdpghbfaaDoorRootw
import Derived.Test.YtediocpdpghbfaaDoorRefc
set_option linter.unusedSimpArgs false
set_option linter.unusedVariables false
namespace Go.Proofs.YtediocpdpghbfaaDoor
open Go Go.RowKit

theorem primesB_mono (p q : Nat) (h : p ≤ q) : (primesB p).length ≤ (primesB q).length := by
  induction q with
  | zero => obtain rfl : p = 0 := by omega
            exact Nat.le_refl _
  | succ q ih =>
    by_cases e : p = q + 1
    · subst e; exact Nat.le_refl _
    · refine Nat.le_trans (ih (by omega)) ?_
      rw [primesB]; split <;> simp
theorem primesB_311 : (primesB 311).length = 63 := by decide +kernel
theorem primesB_ge (p : Nat) : ∀ x ∈ primesB p, 2 ≤ x ∧ x < p := by
  induction p with
  | zero => simp [primesB]
  | succ p ih =>
    intro x hx
    rw [primesB] at hx
    split at hx
    · rename_i h
      rcases List.mem_append.1 hx with h1 | h1
      · have := ih x h1; omega
      · simp at h1; omega
    · have := ih x hx; omega

theorem own_slice {w : World} {base : Nat} {e : TypeId} {size n : Nat} {v : Value} {xs : List Value} (h : w.ownsRow base e size v n xs) (hs : 0 < size) : ∃ A cap, v = .slice A n cap := by
  rcases h.2 with ⟨rfl, hx⟩ | ⟨g, cap, cur, rfl, _⟩
  · have : n = 0 := by
      have h1 := h.1
      rw [hx] at h1
      simp at h1
      omega
    subst this
    exact ⟨none, 0, rfl⟩
  · exact ⟨_, cap, rfl⟩
theorem own_at {w : World} {base : Nat} {e : TypeId} {n cap : Nat} {A : Option Addr} {l : List Nat} (h : w.ownsRow base e 1 (.slice A n cap) n (u64v l)) {i : Nat} (hi : i < l.length) (hn : l.length = n) :
    ∃ g, A = some ⟨g, 0, none⟩ ∧ base ≤ g ∧ g < w.heap.size ∧ w.cell? ⟨g, i, none⟩ = some (.int .u64 (l.getD i 0 : Nat)) := by
  obtain ⟨g, cap', hv, hb, hlt⟩ := h.form (by omega)
  have hA : A = some ⟨g, 0, none⟩ := by injection hv
  subst hA
  have hr := rd_of_own h hlt
  exact ⟨g, rfl, hb, hlt, hr.2 i hi⟩

theorem one_cell (wr : World) (t : TypeId) (x : Value) : ∀ j u, [x][j]? = some u → (wr.alloc (.cells #[x] t)).cell? ((⟨wr.heap.size, 0, none⟩ : Addr).add j) = some u := by
  intro j u hj
  rw [addr_add, Nat.zero_add, (Blk.new wr t #[x]).cell j]; simpa using hj
set_option maxRecDepth 100000 in
theorem primes_any (w : World) :
    Calls Tryd.prog 64 #[.int .i64 64] w fun e w' => ∃ g cap, e = .returned (.slice (some ⟨g, 0, none⟩) 64 cap) ∧ RD w' g PR ∧ Below w.heap.size w w' := by
  obtain ⟨i0, hi0, hz0, hz1, hz2⟩ := info_parts info70
  have HI := Lib.hid (And.intro hi0 (And.intro hz0 (And.intro hz1 hz2))); clear hi0 hz0 hz1 hz2
  go_enter Tryd.func64, Tryd.ntmps64
  go_wp2_with fail
  go_loopg [3, 4] 310 (fun f v pv wr => ∃ (p : Nat) (L : List Nat), pv = .int .u64 p ∧ (∃ A cap, v = .slice A L.length cap) ∧ p + f = 312 ∧ 2 ≤ p ∧ primesB p = L ∧ wr.ownsRow w.heap.size 70 1 v L.length (u64v L) ∧ Below w.heap.size w wr)
  case atStart => exact ⟨2, [], rfl, ⟨none, 0, rfl⟩, rfl, by omega, by decide, World.ownsRow_nil _ _ _ _, Below.refl _ _⟩
  case round =>
    obtain ⟨p, L, rfl, ⟨A, cap, rfl⟩, hpf, hp2, hL, hown, B0⟩ := hrel
    obtain ⟨wo, rfl⟩ : ∃ wo : World, wo = wr := ⟨_, rfl⟩
    obtain ⟨ko, rfl⟩ : ∃ ko : Nat, ko = gk := ⟨_, rfl⟩
    by_cases hlt : p < 312
    · have hll : L.length < 64 := by have := primesB_mono p 311 (by omega); rw [primesB_311, hL] at this; omega
      have hge := primesB_ge p
      rw [hL] at hge
      have HA := Lib.hid (And.intro hpf (And.intro hL (And.intro hown (And.intro B0 hge)))); clear hpf hL hown B0 hge
      go_wp2_with fail
      go_loopg [5, 6] L.length (fun f bv iv wr => ∃ (i : Nat) (b : Bool), bv = .bool b ∧ iv = .int .i64 i ∧ i + f = L.length ∧ (L.take i).all (fun q => p % q != 0) = b ∧ wr = wo)
      case atStart => exact ⟨0, true, rfl, rfl, by omega, rfl, rfl⟩
      case round =>
        obtain ⟨i, b, rfl, rfl, hif, hb, rfl⟩ := hrel
        by_cases hi : i < L.length
        · obtain ⟨g, rfl, hgb, hglt, hc⟩ := own_at HA.out.2.2.1 hi rfl
          have hq := (HA.out.2.2.2.2 (L.getD i 0) (by rw [List.getD_eq_getElem?_getD, List.getElem?_eq_getElem hi]; exact List.getElem_mem hi)).1
          have htk : (L.take (i + 1)).all (fun q => p % q != 0) = ((L.take i).all (fun q => p % q != 0) && (p % L.getD i 0 != 0)) := by
            rw [List.take_succ_eq_append_getElem hi, List.all_append]; simp [List.getD_eq_getElem?_getD, List.getElem?_eq_getElem hi]
          rw [hb] at htk
          generalize L.getD i 0 = q at *
          have hqp : (1 : Int) ≤ (q : Int) := by omega
          obtain ⟨m, hm⟩ : ∃ m, p % q = m := ⟨_, rfl⟩
          rw [hm] at htk
          have hmI : (p : Int) % (q : Int) = (m : Int) := by rw [← hm, Int.natCast_emod]
          have HB := Lib.hid (And.intro hif (And.intro hb htk)); clear hif hb htk hm
          cases b
          · go_wp2_with fail
            go_roundg (gk - 1)
            case measure => have := HB.out.1; omega
            case rel => exact ⟨i + 1, false, rfl, by go_num, by have := HB.out.1; omega, HB.out.2.2, rfl⟩
          · go_wp2_with fail
            go_roundg (gk - 1)
            case measure => have := HB.out.1; omega
            case rel =>
              refine ⟨i + 1, (m != 0), ?_, by go_num, by have := HB.out.1; omega, by rw [HB.out.2.2]; simp, rfl⟩
              congr 1
              by_cases h0 : m = 0
              · subst h0; rfl
              · have : ((m : Int) == 0) = false := by rw [beq_eq_false_iff_ne]; omega
                simp [bne, this, h0]
        · obtain rfl : i = L.length := by omega
          rw [List.take_length] at hb
          have hpb : primesB (p + 1) = if b then L ++ [p] else L := by
            rw [primesB, HA.out.2.1, hb]
            cases b
            · rw [if_neg (by simp)]; rfl
            · rw [if_pos ⟨hp2, rfl⟩]; rfl
          have HB := Lib.hid (And.intro hb hpb); clear hif hb hpb hi
          cases b
          · go_wp2_with fail
            go_roundg (ko - 1)
            case measure => have := HA.out.1; omega
            case rel =>
              obtain ⟨hpf, hL, hown, B0, hge⟩ := HA.out
              exact ⟨p + 1, L, by go_num, ⟨A, cap, rfl⟩, by omega, by omega, by rw [HB.out.2]; rfl, hown, B0⟩
          · have hnew := one_cell wr 70 (.int .u64 (p : Int))
            have HN := Lib.hid hnew; clear hnew
            go_wp2_with (at_builtin; refine wpList_append_own _ rfl (.tmp 30) (.tmp 32) 95 rfl w.heap.size 70 i0 (.int .u64 0) 1 8 Tryd.underlying95 HI.out.1 HI.out.2.1 HI.out.2.2.1 HI.out.2.2.2 rfl (by decide) _ _ _ rfl (HA.out.2.2.1.alloc _) ⟨wr.heap.size, 0, none⟩ 1 1 [.int .u64 (p : Int)] rfl rfl HN.out (by simp [Value.oneCell']) (by unfold maxLen; omega) (by omega) (by have := HA.out.2.2.2.1.size; simp; omega) ?_; intro v1 w1 hown1 hg1 hn1; have H1 := Lib.hid (And.intro hown1 (And.intro hg1 hn1)); clear hown1 hg1 hn1)
            go_roundg (ko - 1)
            case measure => have := HA.out.1; omega
            case rel =>
              obtain ⟨hpf, hL, hown, B0, hge⟩ := HA.out
              obtain ⟨hown1, hg1, hn1⟩ := H1.out
              refine ⟨p + 1, L ++ [p], by go_num, ?_, by omega, by omega, by rw [HB.out.2]; rfl, ?_, ?_⟩
              · obtain ⟨A', cap', h⟩ := own_slice hown1 (by omega); exact ⟨A', cap', by rw [h]; simp⟩
              · rw [u64v_append]; simpa [u64v] using hown1
              · exact (B0.alloc B0.size _).grown hg1 (by have := B0.size; simp; omega) (fun q hq => (hown.lt q (by simpa [Act.eval] using hq)).1)
    · obtain rfl : p = 312 := by omega
      rw [primes_all] at hL
      subst hL
      obtain ⟨g, cap', hv, hgb, hglt⟩ := hown.form (by decide)
      have hr := rd_of_own (g := g) (cap := cap) (by have h2 := hown; injection hv with e1 e2 e3; rw [e1] at h2; exact h2) hglt
      have hA : A = some ⟨g, 0, none⟩ := by injection hv
      subst hA
      have hPR : PR.length = 64 := by decide
      have HE := Lib.hid (And.intro hr (And.intro B0 hPR)); clear hr B0 hown hv hpf
      go_wp2_with fail
      go_ret
      exact ⟨g, cap, by rw [← HE.out.2.2]; rfl, HE.out.1, HE.out.2.1⟩
end Go.Proofs.YtediocpdpghbfaaDoor
