/- The reference's Compress returns what the program's Compress returns. -/
import Derived.Test.YtediocpdpghbfaaDoorComp
set_option linter.unusedSimpArgs false
set_option linter.unusedVariables false
namespace Go.Proofs.YtediocpdpghbfaaDoor
open Go Go.RowKit

/-- the reference's tables, as one list -/
def TT : List Nat := KK ++ HH
theorem TT_length : TT.length = 72 := by decide
theorem TT_k (i : Nat) (h : i < 64) : TT.getD i 0 = KK.getD i 0 := by
  simp only [TT, List.getD_eq_getElem?_getD]
  rw [List.getElem?_append_left (by simpa [KK] using h)]

theorem quiet_add {P : Program} {f : FuncId} {args : Array Value} {w : World} {a n : Nat} {v : Value}
    (h : Calls P f args (w.drewN (a + n)) fun e w' => e = .returned v ∧ ∃ m, w' = (w.drewN (a + n)).drewN m) :
    Calls P f args (w.drewN (a + n)) fun e w'' => e = .returned v ∧ ∃ m, w'' = w.drewN (a + m) :=
  h.mono fun _ _ ⟨he, m, hm⟩ => ⟨he, n + m, by rw [hm, World.drewN_drewN, Nat.add_assoc]⟩
theorem quiet_one {P : Program} {f : FuncId} {args : Array Value} {w : World} {n : Nat} {v : Value}
    (h : Calls P f args (w.drewN n) fun e w' => e = .returned v ∧ ∃ m, w' = (w.drewN n).drewN m) :
    Calls P f args (w.drewN n) fun e w'' => e = .returned v ∧ ∃ m, w'' = w.drewN m :=
  h.mono fun _ _ ⟨he, m, hm⟩ => ⟨he, n + m, by rw [hm, World.drewN_drewN]⟩

theorem ch_ref (e f g : Nat) (he : e < 4294967296) (hf : f < 4294967296) (hg : g < 4294967296) :
    bits BinOp.xor IntKind.u32 (bits BinOp.and IntKind.u32 (e : Int) f) (bits BinOp.and IntKind.u32 (4294967295 - (e : Int)) g) = (ch e f g : Nat) := by
  have e1 : (4294967295 - (e : Int)) = ((4294967295 - e : Nat) : Int) := by omega
  rw [e1, bits_and_u32 _ _ he hf, bits_and_u32 _ _ (by omega) hg, bits_xor_u32 _ _ (Nat.and_lt_two_pow (n := 32) _ hf) (Nat.and_lt_two_pow (n := 32) _ hg)]
  rfl
theorem big1_ref (e : Nat) (he : e < 4294967296) : bits .xor .u32 (bits .xor .u32 (rotr e 6 : Nat) (rotr e 11 : Nat)) (rotr e 25 : Nat) = (big1 e : Nat) := by
  rw [bits_xor_u32 _ _ (rotr_lt e 6 he) (rotr_lt e 11 he), bits_xor_u32 _ _ (Nat.xor_lt_two_pow (n := 32) (rotr_lt e 6 he) (rotr_lt e 11 he)) (rotr_lt e 25 he)]
  rfl
theorem big0_ref (e : Nat) (he : e < 4294967296) : bits .xor .u32 (bits .xor .u32 (rotr e 2 : Nat) (rotr e 13 : Nat)) (rotr e 22 : Nat) = (big0 e : Nat) := by
  rw [bits_xor_u32 _ _ (rotr_lt e 2 he) (rotr_lt e 13 he), bits_xor_u32 _ _ (Nat.xor_lt_two_pow (n := 32) (rotr_lt e 2 he) (rotr_lt e 13 he)) (rotr_lt e 22 he)]
  rfl
theorem word_eq (b : List Nat) (i : Nat) : word b i = b.getD (4 * i) 0 * 16777216 + b.getD (4 * i + 1) 0 * 65536 + b.getD (4 * i + 2) 0 * 256 + b.getD (4 * i + 3) 0 := by
  simp only [word, part, Nat.add_zero]; omega

set_option maxRecDepth 100000 in
set_option maxHeartbeats 4000000 in
theorem refcomp_any (st b : List Nat) (hst : st.length = 8) (hS : Words st) (hb : b.length = 64) (hB : Bytes b) (w : World) (g off cap : Nat)
    (hr : ∀ j, j < 64 → w.cell? ⟨g, off + j, none⟩ = some (.int .u8 (b.getD j 0 : Nat))) :
    Calls Tryd.prog 24 #[.agg (u32s TT), .agg (u32s st), .slice (some ⟨g, off, none⟩) 64 cap] w fun e w' => e = .returned (.agg (u32s (compress KK st b))) ∧ Below w.heap.size w w' := by
  have hgl : g < w.heap.size := block_lt_of_cell (hr 0 (by omega))
  have HR := Lib.hid hr; clear hr
  go_enter Tryd.func24, Tryd.ntmps24
  go_wp2_with fail
  go_loopg [8] 16 (fun k i wr => ∃ n : Nat, n + k = 16 ∧ i = .int .i64 n ∧ Blk wr w.heap.size 32 (u32s TT) ∧ Blk wr (w.heap.size + 1) 30 (u32s st) ∧ Blk wr (w.heap.size + 1 + 1) 30 (u32s (List.replicate 8 0)) ∧
     Blk wr (w.heap.size + 1 + 1 + 1) 29 (u32s (pad64 (words b n))) ∧ Below w.heap.size w wr)
  case atStart =>
    exact ⟨0, rfl, rfl, (((Blk.new _ _ _).alloc _).alloc _).alloc _, ((Blk.new1 _ _ _ _).alloc _).alloc _, (Blk.new2 _ _ _ _ _).alloc _, Blk.new3 _ _ _ _ _ _,
      ((((Below.refl _ _).alloc (Nat.le_refl _) _).alloc (by simp) _).alloc (by simp; omega) _).alloc (by simp; omega) _⟩
  case round =>
    obtain ⟨n, hnk, rfl, E0, E1, E2, E3, B0⟩ := hrel
    have HNK := Lib.hid hnk; clear hnk
    by_cases hlt : n < 16
    · have d0 := (B0.cell (p := ⟨g, off + 4 * n, none⟩) hgl).trans (HR.out (4 * n) (by omega))
      have d1 := (B0.cell (p := ⟨g, off + (4 * n + 1), none⟩) hgl).trans (HR.out (4 * n + 1) (by omega))
      have d2 := (B0.cell (p := ⟨g, off + (4 * n + 2), none⟩) hgl).trans (HR.out (4 * n + 2) (by omega))
      have d3 := (B0.cell (p := ⟨g, off + (4 * n + 3), none⟩) hgl).trans (HR.out (4 * n + 3) (by omega))
      have dn := E3.u32 (i := n) (by rw [pad64_length _ (by rw [words_length]; omega)]; omega)
      have fn := E3.frozen n
      have hset := pad64_set (words b n) (word b n) (by rw [words_length]; omega)
      rw [words_length, ← words_succ, word_eq] at hset
      have l0 := hB (4 * n); have l1 := hB (4 * n + 1); have l2 := hB (4 * n + 2); have l3 := hB (4 * n + 3)
      generalize b.getD (4 * n) 0 = x0 at *
      generalize b.getD (4 * n + 1) 0 = x1 at *
      generalize b.getD (4 * n + 2) 0 = x2 at *
      generalize b.getD (4 * n + 3) 0 = x3 at *
      generalize (pad64 (words b n)).getD n 0 = xn at *
      have HS := Lib.hid hset; clear hset
      have HE := Lib.hid (And.intro E0 (And.intro E1 (And.intro E2 (And.intro E3 B0)))); clear E0 E1 E2 E3 B0
      go_wp2_with fail
      go_region
      go_wp2
      go_roundg (gk - 1)
      case measure => have := HNK.out; omega
      case rel =>
        obtain ⟨E0, E1, E2, E3, B0⟩ := HE.out
        refine ⟨n + 1, by have := HNK.out; omega, by go_num, (E0.drewN 1).far (by simp; omega) _, (E1.drewN 1).far (by simp) _, (E2.drewN 1).far (by simp) _, ?_, (below_drewN B0 1).setCell (by simp; omega) _⟩
        have h := (E3.drewN 1).set_ n (.int .u32 (x0 * 16777216 + x1 * 65536 + x2 * 256 + x3 : Nat))
        rw [u32s_set, HS.out] at h
        have ez : (x0 : Int) * 16777216 + x1 * 65536 + x2 * 256 + x3 = ((x0 * 16777216 + x1 * 65536 + x2 * 256 + x3 : Nat) : Int) := by omega
        rw [ez]
        exact h
    · obtain rfl : n = 16 := by have := HNK.out; omega
      clear hlt HR hgl
      have HE := Lib.hid (And.intro E0 (And.intro E1 (And.intro E2 (And.intro E3 B0)))); clear E0 E1 E2 E3 B0
      go_wp2_with fail
      go_loopg [9] 48 (fun k j wi => ∃ t : Nat, t + k = 64 ∧ 16 ≤ t ∧ j = .int .i64 t ∧ Blk wi w.heap.size 32 (u32s TT) ∧ Blk wi (w.heap.size + 1) 30 (u32s st) ∧ Blk wi (w.heap.size + 1 + 1) 30 (u32s (List.replicate 8 0)) ∧
        Blk wi (w.heap.size + 1 + 1 + 1) 29 (u32s (pad64 (ext (words b 16) (t - 16)))) ∧ Below w.heap.size w wi)
      case atStart => obtain ⟨E0, E1, E2, E3, B0⟩ := HE.out; exact ⟨16, rfl, Nat.le_refl _, rfl, E0, E1, E2, E3, B0⟩
      case round =>
        obtain ⟨t, htk, ht16, rfl, E0, E1, E2, hc3, B0⟩ := hrel
        have HTK := Lib.hid htk; clear htk HE HNK
        by_cases ht : t < 64
        · have HL : (ext (words b 16) (t - 16)).length = t := by rw [ext_length, words_length]; omega
          have HW : Words (ext (words b 16) (t - 16)) := words_ext _ (words_words b hB 16) _
          generalize hL : ext (words b 16) (t - 16) = L at *
          have d15 := hc3.u32 (i := t - 15) (by rw [pad64_length _ (by omega)]; omega)
          have d2 := hc3.u32 (i := t - 2) (by rw [pad64_length _ (by omega)]; omega)
          have d7 := hc3.u32 (i := t - 7) (by rw [pad64_length _ (by omega)]; omega)
          have d16 := hc3.u32 (i := t - 16) (by rw [pad64_length _ (by omega)]; omega)
          have dt := hc3.u32 (i := t) (by rw [pad64_length _ (by omega)]; omega)
          have f3 := hc3.frozen t
          rw [pad64_getD _ _ (by omega)] at d15 d2 d7 d16
          have l15 := HW (t - 15); have l2 := HW (t - 2); have l7 := HW (t - 7); have l16 := HW (t - 16)
          have hn : nextW L = (s1 (L.getD (t - 2) 0) + L.getD (t - 7) 0 + s0 (L.getD (t - 15) 0) + L.getD (t - 16) 0) % 4294967296 := by rw [nextW, HL]
          generalize (pad64 L).getD t 0 = xt at *
          generalize L.getD (t - 15) 0 = x15 at *
          generalize L.getD (t - 2) 0 = x2 at *
          generalize L.getD (t - 7) 0 = x7 at *
          generalize L.getD (t - 16) 0 = x16 at *
          have e0 := s0_walk x15 l15
          have e1 := s1_walk x2 l2
          have k0 := s0_lt x15 l15
          have k1 := s1_lt x2 l2
          generalize s0 x15 = y0 at *
          generalize s1 x2 = y1 at *
          have HN := Lib.hid (And.intro hn (And.intro HL hL)); clear hn HL hL HW
          have HE := Lib.hid (And.intro E0 (And.intro E1 (And.intro E2 (And.intro hc3 B0)))); clear E0 E1 E2 hc3 B0
          go_wp2_with fail
          go_quiet ((go_at_call 69; first | exact quiet_one (rotr_any _ _ (by assumption) (by omega) _) | exact quiet_add (rotr_any _ _ (by assumption) (by omega) _)))
          rename_i n1
          go_wp2_with fail
          go_quiet ((go_at_call 69; first | exact quiet_one (rotr_any _ _ (by assumption) (by omega) _) | exact quiet_add (rotr_any _ _ (by assumption) (by omega) _)))
          rename_i n2
          go_wp2_with fail
          go_region
          go_wp2
          go_roundg (gk - 1)
          case measure => have := HTK.out; omega
          case rel =>
            obtain ⟨hn, HL, hL⟩ := HN.out
            obtain ⟨E0, E1, E2, hc3, B0⟩ := HE.out
            have ez : ((y1 : Int) + x7 + y0 + x16) % 4294967296 = (nextW L : Nat) := by rw [hn]; omega
            refine ⟨t + 1, by have := HTK.out; omega, by omega, by go_num, (E0.drewN _).far (by simp; omega) _, (E1.drewN _).far (by simp) _, (E2.drewN _).far (by simp) _, ?_, (below_drewN B0 _).setCell (by simp; omega) _⟩
            rw [show t + 1 - 16 = (t - 16) + 1 by omega, ext, hL, ez]
            exact (hc3.drewN _).set32 _ _ (by have := pad64_set L (nextW L) (by omega); rwa [HL] at this)
        · obtain rfl : t = 64 := by have := HTK.out; omega
          clear ht
          rw [show ext (words b 16) (64 - 16) = sched b from rfl, pad64_full _ (sched_length b)] at hc3
          have HE := Lib.hid (And.intro E0 (And.intro E1 (And.intro E2 (And.intro hc3 B0)))); clear E0 E1 E2 hc3 B0
          have hsz : w.heap.size + 1 + 1 + 1 < wr.heap.size := HE.out.2.2.2.1.lt
          go_wp2_with (first
            | (refine wpList_load_row rfl 30 (.tmp 4) rfl (w.heap.size + 1) rfl 30 (u32s st) (0, 0) _ HE.out.2.1 Tryd.underlying30 rfl (size30l st hst) ?_)
            | (refine wpList_store_row rfl 30 (.tmp 12) (.tmp 115) rfl wr.heap.size (u32s st) rfl rfl 30 (u32s (List.replicate 8 0)) (Blk.new _ _ _) (size30l st hst) (by rw [u32s_size, u32s_size, hst]; rfl) (u32s_one _) ?_))
          generalize hS : wr.heap.size = S
          rw [hS] at hsz
          have HSz := Lib.hid hS; clear hS
          go_loopg [13] 64 (fun k i wi => ∃ t : Nat, t + k = 64 ∧ i = .int .i64 t ∧ Blk wi w.heap.size 32 (u32s TT) ∧ Blk wi (w.heap.size + 1) 30 (u32s st) ∧ Blk wi (w.heap.size + 1 + 1) 30 (u32s (List.replicate 8 0)) ∧
            Blk wi (w.heap.size + 1 + 1 + 1) 29 (u32s (sched b)) ∧ Blk wi S 30 (u32s (rnds KK (sched b) st t)) ∧ Below w.heap.size w wi)
          case atStart =>
            obtain ⟨E0, E1, E2, E3, B0⟩ := HE.out
            obtain rfl := HSz.out
            exact ⟨0, rfl, rfl, (E0.alloc _).farRow (by omega) _, (E1.alloc _).farRow (by omega) _, (E2.alloc _).farRow (by omega) _, (E3.alloc _).farRow (by omega) _, (Blk.new _ _ _).setRow _,
              below_setRow' (B0.alloc (by omega) _) (by omega) _⟩
          case round =>
            clear HE HTK ht16 HSz
            obtain ⟨t, htk, rfl, E0, E1, E2, E3, E4, B0⟩ := hrel
            have HTK := Lib.hid htk; clear htk
            by_cases ht : t < 64
            · have hw := rnds_words KK (sched b) st hS t
              obtain ⟨a, b', c, d, e, f, g', z, hl⟩ := list8 _ (rnds_length KK (sched b) st hst t)
              have hrn : rnds KK (sched b) st (t + 1) = rnd (rnds KK (sched b) st t) (KK.getD t 0) ((sched b).getD t 0) := rfl
              rw [hl] at E4 hw hrn
              have c0 := E4.u32 (i := 0) (by simp)
              have c1 := E4.u32 (i := 1) (by simp)
              have c2 := E4.u32 (i := 2) (by simp)
              have c3 := E4.u32 (i := 3) (by simp)
              have c4 := E4.u32 (i := 4) (by simp)
              have c5 := E4.u32 (i := 5) (by simp)
              have c6 := E4.u32 (i := 6) (by simp)
              have c7 := E4.u32 (i := 7) (by simp)
              have ha : a < 4294967296 := hw 0
              have hb' : b' < 4294967296 := hw 1
              have hc : c < 4294967296 := hw 2
              have hd : d < 4294967296 := hw 3
              have he : e < 4294967296 := hw 4
              have hf : f < 4294967296 := hw 5
              have hg' : g' < 4294967296 := hw 6
              have hz : z < 4294967296 := hw 7
              simp only [List.getD_cons_zero, List.getD_cons_succ] at c0 c1 c2 c3 c4 c5 c6 c7
              have dk := E0.u32 (i := t) (by rw [TT_length]; omega)
              rw [TT_k t ht] at dk
              have dx := E3.u32 (i := t) (by rw [sched_length]; omega)
              have lx := words_sched b hB t
              have lk := words_KK t
              generalize (sched b).getD t 0 = x at *
              generalize KK.getD t 0 = kk at *
              have hch := ch_ref e f g' he hf hg'
              have hmaj := maj_walk a b' c ha hb' hc
              have l1 := ch_lt e f g' he hf hg'
              have l2 := maj_lt a b' c ha hb' hc
              have hb1 := big1_ref e he
              have hb0 := big0_ref a ha
              have l3 := big1_lt e he
              have l4 := big0_lt a ha
              generalize hCH : ch e f g' = CH at *
              generalize hMJ : maj a b' c = MJ at *
              generalize hG1 : big1 e = G1 at *
              generalize hG0 : big0 a = G0 at *
              have HG := Lib.hid (And.intro hCH (And.intro hMJ (And.intro hG1 hG0))); clear hCH hMJ hG1 hG0
              have HL := Lib.hid (And.intro hl hrn); clear hl hrn hw
              have HE := Lib.hid (And.intro E0 (And.intro E1 (And.intro E2 (And.intro E3 (And.intro E4 B0))))); clear E0 E1 E2 E3 E4 B0
              go_wp2_with fail
              go_quiet (fail)
              go_wp2_with fail
              go_quiet ((go_at_call 69; first | exact quiet_one (rotr_any _ _ (by assumption) (by omega) _) | exact quiet_add (rotr_any _ _ (by assumption) (by omega) _)))
              go_wp2_with fail
              refine (rotr_any a 2 ha (by omega) _).mono ?_; rintro r w' ⟨rfl, m1, rfl⟩
              go_wp2_with fail
              refine (rotr_any a 13 ha (by omega) _).mono ?_; rintro r w' ⟨rfl, m2, rfl⟩
              go_wp2_with fail
              refine (rotr_any a 22 ha (by omega) _).mono ?_; rintro r w' ⟨rfl, m3, rfl⟩
              go_wp2_with (refine wpList_store_row rfl 30 (.tmp 12) (.tmp 194) rfl S (u32s (rnd [a, b', c, d, e, f, g', z] kk x)) rfl ?hy 30 _ (HE.out.2.2.2.2.1.drewN _) size30 rfl (u32s_one _) ?_)
              case hy =>
                have ht1 : t1 [a, b', c, d, e, f, g', z] kk x = (z + G1 + CH + kk + x) % 4294967296 := by rw [← HG.out.1, ← HG.out.2.2.1]; rfl
                have ht2 : t2 [a, b', c, d, e, f, g', z] = (G0 + MJ) % 4294967296 := by rw [← HG.out.2.1, ← HG.out.2.2.2]; rfl
                refine agg8 _ _ (((t1 [a, b', c, d, e, f, g', z] kk x + t2 [a, b', c, d, e, f, g', z]) % 4294967296 : Nat) : Int) (((d + t1 [a, b', c, d, e, f, g', z] kk x) % 4294967296 : Nat) : Int) _ _ _ _ _ _ ?_ ?_
                · rw [ht1, ht2]; omega
                · rw [ht1]; omega
              go_wp2_with fail
              go_roundg (gk - 1)
              case measure => have := HTK.out; omega
              case rel =>
                obtain ⟨E0, E1, E2, E3, E4, B0⟩ := HE.out
                refine ⟨t + 1, by have := HTK.out; omega, by go_num, (E0.drewN _).farRow (by omega) _, (E1.drewN _).farRow (by omega) _, (E2.drewN _).farRow (by omega) _, (E3.drewN _).farRow (by omega) _, ?_, below_setRow' (below_drewN B0 _) (by omega) _⟩
                rw [HL.out.2]
                exact (E4.drewN _).setRow _
            · obtain rfl : t = 64 := by have := HTK.out; omega
              clear ht
              generalize hv : rnds KK (sched b) st 64 = v at *
              have hvl : v.length = 8 := by rw [← hv]; exact rnds_length _ _ _ hst _
              have hvw : Words v := by rw [← hv]; exact rnds_words _ _ _ hS _
              have HV := Lib.hid hv; clear hv
              have HE := Lib.hid (And.intro E1 (And.intro E2 (And.intro E4 B0))); clear E0 E1 E2 E3 E4 B0
              go_wp2_with fail
              go_loopg [22] 8 (fun k i wi => ∃ t : Nat, t + k = 8 ∧ i = .int .i64 t ∧ Blk wi (w.heap.size + 1) 30 (u32s st) ∧ Blk wi (w.heap.size + 1 + 1) 30 (u32s (List.replicate 8 0)) ∧
                Blk wi S 30 (u32s (addTo v st t)) ∧ Below w.heap.size w wi)
              case atStart => obtain ⟨E1, E2, E3, B0⟩ := HE.out; exact ⟨0, rfl, rfl, E1, E2, by rw [addTo_zero v st hvl]; exact E3, B0⟩
              case round =>
                obtain ⟨t, htk, rfl, E1, E2, E3, B0⟩ := hrel
                clear HTK
                have HTK := Lib.hid htk; clear htk HE
                by_cases ht : t < 8
                · have c1 := E1.u32 (i := t) (by omega)
                  have c3 := E3.u32 (i := t) (by rw [addTo_length]; omega)
                  have f3 := E3.frozen t
                  rw [addTo_at v st t ht] at c3
                  have l1 := hS t; have l3 := hvw t
                  have hset := addTo_set v st t ht
                  generalize st.getD t 0 = x at *
                  generalize v.getD t 0 = y at *
                  have HS := Lib.hid hset; clear hset
                  have HE := Lib.hid (And.intro E1 (And.intro E2 (And.intro E3 B0))); clear E1 E2 E3 B0
                  go_wp2_with fail
                  go_region
                  go_wp2
                  go_roundg (gk - 1)
                  case measure => have := HTK.out; omega
                  case rel =>
                    obtain ⟨E1, E2, E3, B0⟩ := HE.out
                    exact ⟨t + 1, by have := HTK.out; omega, by go_num, (E1.drewN 1).far (by simp; omega) _, (E2.drewN 1).far (by simp; omega) _, (E3.drewN 1).set32 _ _ HS.out, (below_drewN B0 1).setCell (by simp; omega) _⟩
                · obtain rfl : t = 8 := by have := HTK.out; omega
                  clear ht
                  rw [addTo_full] at E3
                  have hl8 : (addUp v st).length = 8 := by simp [addUp]
                  have HL8 := Lib.hid hl8; clear hl8
                  have HE := Lib.hid (And.intro E1 (And.intro E2 (And.intro E3 B0))); clear E1 E2 E3 B0
                  go_wp2_with (first
                    | (refine wpList_load_row rfl 30 (.tmp 12) rfl S rfl 30 (u32s (addUp v st)) (0, 0) _ HE.out.2.2.1 Tryd.underlying30 rfl (size30l _ HL8.out) ?_)
                    | (refine wpList_store_row rfl 30 (.tmp 6) (.tmp 208) rfl (w.heap.size + 1 + 1) (u32s (addUp v st)) rfl rfl 30 (u32s (List.replicate 8 0)) HE.out.2.1 (size30l _ HL8.out) (by rw [u32s_size, u32s_size, HL8.out]; rfl) (u32s_one _) ?_))
                  obtain ⟨E1, E2, E3, B0⟩ := HE.out
                  refine bodyPost_ret (v := .agg (u32s (addUp v st))) (results_cell_row rfl _ _ (w.heap.size + 1 + 1) 30 _ (0, 0) _ rfl (E2.setRow _) Tryd.underlying30 rfl (size30l _ HL8.out)) rfl ⟨?_, below_setRow' B0 (by omega) _⟩
                  rw [compress, HV.out]
end Go.Proofs.YtediocpdpghbfaaDoor
