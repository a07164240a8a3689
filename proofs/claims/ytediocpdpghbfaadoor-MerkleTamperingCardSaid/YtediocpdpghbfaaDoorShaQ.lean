/- String, nibble, Parse known: the examples of the chapter hold. The derivation of the constants of SHA-256 from primes, as plain functions; the kernel computes them. No program in sight. The reference's big numbers: digit, of, mul, greater. The reference's mul. The reference's root. The reference's Primes and Make. The reference's Make returns the very tables that the program's text lists. Slices of bytes of the call's own, appended to; the reference's Pad. Equality of arrays of 32 bytes; string(b) of a readable slice. -/
import Derived.Test.YtediocpdpghbfaaDoorShaP
import Derived.Deep.AppendLies
import Derived.Laws.IdiomStrings
import Derived.OwnWalk
import Derived.Lib.SlBytesConst
import Derived.RegionTactic
import Derived.Laws.AppendOwnNone
import Derived.Laws.BytesArg
set_option linter.unusedSimpArgs false
set_option linter.unusedVariables false
namespace Go.Proofs.YtediocpdpghbfaaDoor
open Go Go.RowKit

/-- a string of bytes given as numbers -/
def strOf (l : List Nat) : ByteArray := ⟨(l.map UInt8.ofNat).toArray⟩
/-- a hexadecimal digit -/
def hexd (n : Nat) : Nat := if n < 10 then 48 + n else 87 + n
def hexL (d : List Nat) : List Nat := d.flatMap fun b => [hexd (b / 16), hexd (b % 16)]
def digitsBA : ByteArray := ⟨#[48, 49, 50, 51, 52, 53, 54, 55, 56, 57, 97, 98, 99, 100, 101, 102]⟩
theorem digit_tab : ∀ n : Fin 16, (digitsBA[n.val]?) = some (UInt8.ofNat (hexd n.val)) := by decide
theorem hexd_lt : ∀ n : Fin 16, hexd n.val < 256 := by decide
theorem digit_at (n : Nat) (h : n < 16) (w : World) : (Instr.index 9 (.string digitsBA) (.int .u8 (n : Int))).run Tryd.prog w = .ok (.int .u8 (hexd n : Nat)) w := by
  have h1 := digit_tab ⟨n, h⟩
  have h2 := hexd_lt ⟨n, h⟩
  simp only at h1 h2
  rw [run_index_string w 9 digitsBA .u8 n Tryd.underlying9]
  have h3 : (n : Int) < (digitsBA.size : Nat) := by have : digitsBA.size = 16 := rfl; omega
  have h4 : n < digitsBA.size := by omega
  rw [dif_pos ⟨by omega, h3⟩]
  have h5 : digitsBA[((n : Int)).toNat]'(by omega) = UInt8.ofNat (hexd n) := by
    have := ByteArray.getElem?_lt' digitsBA n h4
    rw [h1] at this
    simpa using (Option.some.inj this).symm
  rw [h5]
  congr 2
  simp; omega
theorem bits_and15 : ∀ b : Fin 256, bits .and .u8 (b.val : Int) 15 = ((b.val % 16 : Nat) : Int) := by decide +kernel
theorem hexL_length (d : List Nat) : (hexL d).length = 2 * d.length := by
  induction d with
  | nil => rfl
  | cons a d ih => simp only [hexL, List.flatMap_cons, List.length_append, List.length_cons, List.length_nil] at *; omega
theorem hexL_snoc (d : List Nat) (b : Nat) : hexL (d ++ [b]) = hexL d ++ [hexd (b / 16), hexd (b % 16)] := by simp [hexL]
theorem hexL_bytes (d : List Nat) (hd : Bytes d) : Bytes (hexL d) := by
  refine Bytes.of_mem fun x hx => ?_
  simp only [hexL, List.mem_flatMap, List.mem_cons, List.not_mem_nil, or_false] at hx
  obtain ⟨b, hb, h⟩ := hx
  have := hd.mem b hb
  rcases h with rfl | rfl
  · exact hexd_lt ⟨b / 16, by omega⟩
  · exact hexd_lt ⟨b % 16, by omega⟩
theorem run_index_byte25 (l : List Nat) (hl : l.length = 32) (i : Nat) (hi : i < 32) (w : World) :
    (Instr.index 25 (.agg (u8s l)) (.int .i64 (i : Int))).run Tryd.prog w = .ok (.int .u8 (l.getD i 0 : Nat)) w := by
  have h1 := u8s_at l i (by omega)
  have hs : (Tryd.prog.info? 5).map (·.size) = some 1 := by kernel_rfl
  cases hq : Tryd.prog.info? 5 with
  | none => simp [hq] at hs
  | some j =>
    have hj : j.size = 1 := by simpa [hq] using hs
    simp [Instr.index, asIntOf, run_underlying Tryd.underlying25, run_underlying Tryd.underlying5, Go.part, isAgg, sizeOf, typeInfo, hq, hj, h1, hi]
def bvals (l : List Nat) : List Value := l.map fun x : Nat => Value.int .u8 (x : Int)
theorem bvals_length (l : List Nat) : (bvals l).length = l.length := by simp [bvals]
theorem bvals_append (l r : List Nat) : bvals (l ++ r) = bvals l ++ bvals r := by simp [bvals]
theorem convert_own (w : World) (g n cap : Nat) (l : List Nat) (hn : l.length = n) (hb : Bytes l) (hc : ∀ j u, (bvals l)[j]? = some u → w.cell? ((⟨g, 0, none⟩ : Addr).add j) = some u) :
    (convert 22 9 (.slice (some ⟨g, 0, none⟩) n cap)).run Tryd.prog w = .ok (.string (strOf l)) w := by
  have := run_convert_bytes_back (P := Tryd.prog) w 22 9 5 ⟨g, 0, none⟩ cap (l.map UInt8.ofNat) Tryd.underlying22 Tryd.underlying5 Tryd.underlying9 (fun j hj => by
    simp only [List.length_map] at hj
    have h256 := hb.mem _ (List.getElem_mem hj)
    refine hc j _ ?_
    simp [bvals, List.getElem?_eq_getElem hj]
    omega)
  rw [List.length_map, hn] at this
  exact this

theorem pair_cells (wr : World) (y1 y2 : Nat) : ∀ j u, [Value.int .u8 (y1 : Int), Value.int .u8 (y2 : Int)][j]? = some u →
    (wr.drew.alloc (.cells #[Value.int .u8 (y1 : Int), Value.int .u8 (y2 : Int)] 5)).cell? ((⟨wr.heap.size, 0, none⟩ : Addr).add j) = some u := by
  intro j u hj
  have := (Blk.new wr.drew 5 #[Value.int .u8 (y1 : Int), Value.int .u8 (y2 : Int)]).cell (0 + j)
  rw [addr_add]
  refine this.trans ?_
  rw [Nat.zero_add]; simpa using hj
def zer (n : Nat) : List Nat := List.replicate n 0
attribute [local go_sem ↓] ld25
set_option maxRecDepth 100000 in
theorem string_any (w : World) (d : List Nat) (hd : d.length = 32) (hB : Bytes d) :
    Calls Tryd.prog 32 #[.agg (u8s d)] w fun e w' => e = .returned (.string (strOf (hexL d))) ∧ Below w.heap.size w w' := by
  obtain ⟨i0, hi0, hz0, hz1, hz2⟩ := info_parts info5
  have hmk : ∀ w, (Instr.makeSlice 22 (.int .i64 0) (.int .i64 64)).run Tryd.prog w = .ok (.slice (some ⟨w.heap.size, 0, none⟩) 0 64) (w.alloc (.cells (u8s (zer 64)) 5)) := fun w => by
    have := run_make_rowN (P := Tryd.prog) 22 5 i0 _ Tryd.underlying22 hi0 hz0 .i64 .i64 0 64 (by omega) (by rw [hz2]; omega) (by omega) w
    rwa [hz1, Nat.mul_one, madeCells_u8] at this
  have hld : (loadAgg 25 (.pointer (some ⟨w.heap.size, 0, none⟩))).run Tryd.prog ((w.alloc (.cells (u8s d) 25)).alloc (.cells (u8s (zer 64)) 5)) = .ok (.agg (u8s d)) ((w.alloc (.cells (u8s d) 25)).alloc (.cells (u8s (zer 64)) 5)) := by
    have := loadAgg_run (P := Tryd.prog) (w := (w.alloc (.cells (u8s d) 25)).alloc (.cells (u8s (zer 64)) 5)) (ty := 25) (g := w.heap.size) (off := 0) (u8s d).toList Tryd.underlying25 rfl (by rw [Array.length_toList]; exact size25 d hd) (fun j v hv => by
      rw [Nat.zero_add, ((Blk.new w 25 (u8s d)).alloc _).cell]; simpa using hv)
    simpa using this
  have HI := Lib.hid (And.intro hi0 (And.intro hz0 (And.intro hz1 hz2))); clear hi0 hz0 hz1 hz2
  go_enter Tryd.func32, Tryd.ntmps32
  go_wp2_with fail
  go_loopg [3, 8] 32 (fun k v i wr => ∃ t : Nat, t + k = 32 ∧ i = .int .i64 t ∧ wr.ownsRow w.heap.size 5 1 v (2 * t) (bvals (hexL (d.take t))) ∧ Below w.heap.size w wr)
  case atStart =>
    refine ⟨0, rfl, rfl, ?_, ((Below.refl _ _).alloc (Nat.le_refl _) _).alloc (by simp) _⟩
    have := World.ownsRow_made (base := w.heap.size) (e := 5) (size := 1) (w.alloc (.cells (u8s d) 25)) (u8s (zer 64)) 64 (by simp) (by decide) (by rw [u8s_size]; rfl)
    rwa [size1] at this
  case round =>
    obtain ⟨t, htk, rfl, hown, B0⟩ := hrel
    have HTK := Lib.hid htk; clear htk
    by_cases ht : t < 32
    · have hix := run_index_byte25 d hd t ht
      have hb := hB t
      have htake : d.take (t + 1) = d.take t ++ [d.getD t 0] := by
        rw [List.take_succ_eq_append_getElem (by omega)]; simp [List.getD_eq_getElem?_getD, List.getElem?_eq_getElem (show t < d.length by omega)]
      generalize d.getD t 0 = b at *
      have hnext : bvals (hexL (d.take (t + 1))) = bvals (hexL (d.take t)) ++ [.int .u8 (hexd (b / 16) : Nat), .int .u8 (hexd (b % 16) : Nat)] := by rw [htake, hexL_snoc, bvals_append]; rfl
      have ha := bits_and15 ⟨b, hb⟩
      have d1 : ∀ W, (Instr.index 9 (.string ⟨#[48, 49, 50, 51, 52, 53, 54, 55, 56, 57, 97, 98, 99, 100, 101, 102]⟩) (.int .u8 ((b : Int) / 16))).run Tryd.prog W = .ok (.int .u8 (hexd (b / 16) : Nat)) W := fun W => digit_at (b / 16) (by omega) W
      have d2 : ∀ W, (Instr.index 9 (.string ⟨#[48, 49, 50, 51, 52, 53, 54, 55, 56, 57, 97, 98, 99, 100, 101, 102]⟩) (.int .u8 ((b : Int) % 16))).run Tryd.prog W = .ok (.int .u8 (hexd (b % 16) : Nat)) W := fun W => digit_at (b % 16) (by omega) W
      simp only [Int.natCast_emod, Int.cast_ofNat_Int] at ha
      generalize hexd (b / 16) = y1 at *
      generalize hexd (b % 16) = y2 at *
      have HN := Lib.hid (And.intro hnext htake); clear hnext htake
      have HE := Lib.hid (And.intro hown B0); clear hown B0
      have hwn := pair_cells wr y1 y2
      have HW := Lib.hid hwn; clear hwn
      go_wp2_with fail
      go_region_law (refine step_append_lies _ rfl (.tmp 11) (.tmp 18) 22 rfl w.heap.size 5 i0 (.int .u8 0) 1 1 Tryd.underlying22 HI.out.1 HI.out.2.1 HI.out.2.2.1 HI.out.2.2.2 rfl (by decide) u3 (2 * t) (bvals (hexL (d.take t))) (by simp [Act.eval, Act.put]) (HE.out.1.drew.alloc _) ⟨wr.heap.size, 0, none⟩ 2 2 [.int .u8 (y1 : Int), .int .u8 (y2 : Int)] (by simp [Act.eval, Act.put]) rfl HW.out (by simp [Value.oneCell']) (by omega) (by simp only [maxLen]; omega) (by omega) (by have := HE.out.2.size; simp; omega) (wr.heap.size + 1) (by simp) ?_; intro g cap w2 hown2 hg2 hv2 hlt2; have HO := Lib.hid (And.intro hown2 (And.intro hg2 hv2)); clear hown2 hg2 hv2)
      all_goals
        go_wp2_with fail
        go_roundg (gk - 1)
        case measure => have := HTK.out; omega
        case rel =>
          obtain ⟨hown2, hg2, hv2⟩ := HO.out
          obtain ⟨hown, B0⟩ := HE.out
          refine ⟨t + 1, by have := HTK.out; omega, by go_num, ?_, ?_⟩
          · rw [HN.out.1]; exact hown2
          · exact ((B0.drew).alloc B0.size _).grown hg2 (by have := B0.size; simp; omega) (fun k hk => (hown.lt k hk).1)
    · obtain rfl : t = 32 := by have := HTK.out; omega
      clear ht
      rw [List.take_of_length_le (by omega)] at hown
      obtain ⟨g, cap, rfl, hgB, hglt⟩ := hown.form (by omega)
      have hcv := convert_own wr g (2 * 32) cap (hexL d) (by rw [hexL_length, hd]) (hexL_bytes d hB) (hown.cells rfl)
      have HE := Lib.hid B0; clear hown B0
      go_wp2_with fail
      go_ret
      exact ⟨rfl, HE.out⟩

/-! ### nibble -/
def nib (c : Nat) : Nat := if 48 ≤ c ∧ c ≤ 57 then c - 48 else if 97 ≤ c ∧ c ≤ 102 then c - 87 else 0
def isNib (c : Nat) : Bool := decide ((48 ≤ c ∧ c ≤ 57) ∨ (97 ≤ c ∧ c ≤ 102))
theorem nibble_any (c : Nat) (hc : c < 256) (w : World) :
    Calls Tryd.prog 71 #[.int .u8 c] w fun e w' => e = .returned (.tuple #[.int .u8 (nib c : Nat), .bool (isNib c)]) ∧ w = w' := by
  obtain ⟨n, hn⟩ : ∃ n, nib c = n := ⟨_, rfl⟩
  obtain ⟨b, hb⟩ : ∃ b, isNib c = b := ⟨_, rfl⟩
  rw [hn, hb]
  unfold nib at hn
  unfold isNib at hb
  by_cases h1 : 48 ≤ c
  · by_cases h2 : c ≤ 57
    · obtain rfl : n = c - 48 := by rw [if_pos ⟨h1, h2⟩] at hn; exact hn.symm
      obtain rfl : b = true := by rw [← hb]; simp; omega
      have e : ((c - 48 : Nat) : Int) = (c : Int) - 48 := by omega
      rw [e]
      clear hn hb e
      go_enter Tryd.func71, Tryd.ntmps71
      go_wp2_with fail
      go_ret2
      exact ⟨rfl, rfl⟩
    · have h2' : 57 < c := by omega
      have t2 : decide ((c : Int) ≤ 57) = false := by simp; omega
      by_cases h3 : 97 ≤ c
      · by_cases h4 : c ≤ 102
        · obtain rfl : n = c - 87 := by rw [if_neg (by omega), if_pos ⟨h3, h4⟩] at hn; exact hn.symm
          obtain rfl : b = true := by rw [← hb]; simp; omega
          have e : ((c - 87 : Nat) : Int) = (c : Int) - 97 + 10 := by omega
          rw [e]
          clear hn hb e
          go_enter Tryd.func71, Tryd.ntmps71
          go_wp2_with fail
          go_ret2
          exact ⟨rfl, rfl⟩
        · have t4 : decide ((c : Int) ≤ 102) = false := by simp; omega
          obtain rfl : n = 0 := by rw [if_neg (by omega), if_neg (by omega)] at hn; exact hn.symm
          obtain rfl : b = false := by rw [← hb]; simp; omega
          clear hn hb
          go_enter Tryd.func71, Tryd.ntmps71
          go_wp2_with fail
          go_ret2
          exact ⟨rfl, rfl⟩
      · have t3 : decide (97 ≤ (c : Int)) = false := by simp; omega
        obtain rfl : n = 0 := by rw [if_neg (by omega), if_neg (by omega)] at hn; exact hn.symm
        obtain rfl : b = false := by rw [← hb]; simp; omega
        clear hn hb
        go_enter Tryd.func71, Tryd.ntmps71
        go_wp2_with fail
        go_ret2
        exact ⟨rfl, rfl⟩
  · have t1 : decide (48 ≤ (c : Int)) = false := by simp; omega
    have t3 : decide (97 ≤ (c : Int)) = false := by simp; omega
    obtain rfl : n = 0 := by rw [if_neg (by omega), if_neg (by omega)] at hn; exact hn.symm
    obtain rfl : b = false := by rw [← hb]; simp; omega
    clear hn hb
    go_enter Tryd.func71, Tryd.ntmps71
    go_wp2_with fail
    go_ret2
    exact ⟨rfl, rfl⟩

/-! ### Parse -/
/-- the bytes of a string -/
def bl (s : ByteArray) : List Nat := s.data.toList.map UInt8.toNat
theorem bl_length (s : ByteArray) : (bl s).length = s.size := by rw [bl, List.length_map, Array.length_toList]; rfl
theorem bl_at (s : ByteArray) (i : Nat) (h : i < s.size) : (bl s).getD i 0 = (s[i]).toNat := by
  have h' : i < s.data.toList.length := by rw [Array.length_toList]; exact h
  simp [bl, List.getD_eq_getElem?_getD, List.getElem?_eq_getElem h']
  rfl
theorem bl_bytes (s : ByteArray) : Bytes (bl s) := Bytes.of_mem fun x hx => by
  simp only [bl, List.mem_map] at hx
  obtain ⟨c, _, rfl⟩ := hx
  exact c.toNat_lt
theorem str_index (s : ByteArray) (i : Nat) (h : i < s.size) (w : World) : (Instr.index 9 (.string s) (.int .i64 (i : Int))).run Tryd.prog w = .ok (.int .u8 ((bl s).getD i 0 : Nat)) w := by
  rw [run_index_string w 9 s .i64 i Tryd.underlying9, dif_pos ⟨by omega, by omega⟩, bl_at s i h]
  simp
def unhex (l : List Nat) : List Nat := (List.range 32).map fun i => nib (l.getD (2 * i) 0) * 16 + nib (l.getD (2 * i + 1) 0)
/-- what Parse returns: a digest and an error's number -/
def parseL (l : List Nat) : List Nat × Nat :=
  if l.length < 64 then (zer 32, 4) else if 64 < l.length then (zer 32, 5) else if (List.range 32).all (fun i => isNib (l.getD (2 * i) 0) && isNib (l.getD (2 * i + 1) 0)) then (unhex l, 0) else (zer 32, 3)
theorem results_cell_row2 {P : Program} {fn : Func} {p u : Tmp} {ty : TypeId} (h : fn.results = #[.cell p ty, .tmp u]) (tmps : Array Value) (w : World) (g : Nat) (t : TypeId) (cs : Array Value) (fr : Nat × Nat) (d : TypeDesc)
    (hp : tmps.getD p undef = .pointer (some ⟨g, 0, none⟩)) (hg : w.heap[g]? = some (.cells cs t fr))
    (hu : P.underlying ty = some d) (hd : (match d with | .struct _ | .array _ _ => true | _ => false) = true) (hi : (P.info? ty).map (·.size) = some cs.size) :
    (results fn tmps).run P w = .ok (.tuple #[.agg cs, tmps.getD u undef]) w := by
  have hp' : tmps[p]?.getD undef = .pointer (some ⟨g, 0, none⟩) := by simpa using hp
  simp [results, h, hp', asAddr, run_loadVar_row w g t ty cs fr d hg hu hd hi]

theorem nib_lt (c : Nat) : nib c < 16 := by unfold nib; split <;> (try split) <;> omega
theorem bits_nib : ∀ x y : Fin 16, bits .or .u8 ((x.val : Int) * 16) (y.val : Int) = ((x.val * 16 + y.val : Nat) : Int) := by decide +kernel
/-- the digest while Parse writes it -/
def unP (l : List Nat) (t : Nat) : List Nat := (unhex l).take t ++ List.replicate (32 - t) 0
theorem unhex_length (l : List Nat) : (unhex l).length = 32 := by simp [unhex]
theorem unP_length (l : List Nat) (t : Nat) (h : t ≤ 32) : (unP l t).length = 32 := by simp [unP, unhex_length]; omega
theorem unP_full (l : List Nat) : unP l 32 = unhex l := by rw [unP, List.take_of_length_le (by rw [unhex_length]; omega)]; simp
theorem unP_set (l : List Nat) (t : Nat) (h : t < 32) : (unP l t).set t (nib (l.getD (2 * t) 0) * 16 + nib (l.getD (2 * t + 1) 0)) = unP l (t + 1) := by
  have hb : (unhex l)[t]'(by rw [unhex_length]; exact h) = nib (l.getD (2 * t) 0) * 16 + nib (l.getD (2 * t + 1) 0) := by simp [unhex]
  obtain ⟨j, hj⟩ : ∃ j, 32 - t = j + 1 := ⟨31 - t, by omega⟩
  rw [unP, unP, hj, show 32 - (t + 1) = j by omega, List.set_append_right _ _ (by simp [unhex_length]; omega), List.replicate_succ,
    List.take_succ_eq_append_getElem (by rw [unhex_length]; exact h), hb]
  have e : t - ((unhex l).take t).length = 0 := by simp [unhex_length]; omega
  rw [e]
  simp
theorem built25 : (Tryd.prog.built 25 []).getD #[] = u8s (zer 32) := by kernel_rfl
theorem zer_length (n : Nat) : (zer n).length = n := by simp [zer]

attribute [local go_sem ↓] st25 ld25
set_option maxRecDepth 100000 in
theorem parse_any (s : ByteArray) (hs : s.size ≤ 9223372036854775807) (w : World) :
    Calls Tryd.prog 33 #[.string s] w fun e w' => e = .returned (.tuple #[.agg (u8s (parseL (bl s)).1), .int .i64 ((parseL (bl s)).2 : Nat)]) ∧ Below w.heap.size w w' := by
  have hbl := bl_length s
  by_cases h1 : s.size < 64
  · have hp : parseL (bl s) = (zer 32, 4) := by rw [parseL, if_pos (by omega)]
    rw [hp]
    have HP := Lib.hid (And.intro hp hbl); clear hp hbl
    go_enter Tryd.func33, Tryd.ntmps33
    go_wp2_with (first
      | (refine wpList_build rfl 25 _ rfl (by kernel_rfl) ?_)
      | (refine wpList_store_row rfl 25 (.tmp 2) (.tmp 14) rfl w.heap.size (u8s (zer 32)) rfl ?hy 25 (u8s (zer 32)) (Blk.new _ _ _) (size25 _ rfl) rfl (u8s_one _) ?_))
    case hy => first | exact built25 | exact congrArg Value.agg built25
    exact bodyPost_ret (v := .tuple #[.agg (u8s (zer 32)), .int .i64 4]) (results_cell_row2 (p := 2) (u := 3) rfl _ _ w.heap.size 25 _ (0, 0) _ rfl ((Blk.new _ _ _).setRow _) Tryd.underlying25 rfl (size25 _ rfl)) rfl
      ⟨rfl, below_setRow' ((Below.refl _ _).alloc (Nat.le_refl _) _) (Nat.le_refl _) _⟩
  · by_cases h2 : 64 < s.size
    · have hp : parseL (bl s) = (zer 32, 5) := by rw [parseL, if_neg (by omega), if_pos (by omega)]
      rw [hp]
      have HP := Lib.hid (And.intro hp hbl); clear hp hbl
      go_enter Tryd.func33, Tryd.ntmps33
      go_wp2_with (first
        | (refine wpList_build rfl 25 _ rfl (by kernel_rfl) ?_)
        | (refine wpList_store_row rfl 25 (.tmp 2) (.tmp 19) rfl w.heap.size (u8s (zer 32)) rfl ?hy 25 (u8s (zer 32)) (Blk.new _ _ _) (size25 _ rfl) rfl (u8s_one _) ?_))
      case hy => first | exact built25 | exact congrArg Value.agg built25
      exact bodyPost_ret (v := .tuple #[.agg (u8s (zer 32)), .int .i64 5]) (results_cell_row2 (p := 2) (u := 3) rfl _ _ w.heap.size 25 _ (0, 0) _ rfl ((Blk.new _ _ _).setRow _) Tryd.underlying25 rfl (size25 _ rfl)) rfl
        ⟨rfl, below_setRow' ((Below.refl _ _).alloc (Nat.le_refl _) _) (Nat.le_refl _) _⟩
    · have hsz : s.size = 64 := by omega
      have hp : parseL (bl s) = if (List.range 32).all (fun i => isNib ((bl s).getD (2 * i) 0) && isNib ((bl s).getD (2 * i + 1) 0)) then (unhex (bl s), 0) else (zer 32, 3) := by
        rw [parseL, if_neg (by omega), if_neg (by omega)]
      have HP := Lib.hid (And.intro hp (And.intro hbl hsz)); clear hp hbl hsz
      go_enter Tryd.func33, Tryd.ntmps33
      go_wp2_with fail
      go_loopg [20] 32 (fun k i wr => ∃ t : Nat, t + k = 32 ∧ i = .int .i64 t ∧ (∀ j, j < t → isNib ((bl s).getD (2 * j) 0) = true ∧ isNib ((bl s).getD (2 * j + 1) 0) = true) ∧
        Blk wr w.heap.size 25 (u8s (zer 32)) ∧ Blk wr (w.heap.size + 1) 25 (u8s (unP (bl s) t)) ∧ Below w.heap.size w wr)
      case atStart => exact ⟨0, rfl, rfl, fun j hj => by omega, (Blk.new _ _ _).alloc _, Blk.new1 _ _ _ _, ((Below.refl _ _).alloc (Nat.le_refl _) _).alloc (by simp) _⟩
      case round =>
        obtain ⟨t, htk, rfl, hall, K1, K2, B0⟩ := hrel
        have HTK := Lib.hid htk; clear htk
        by_cases ht : t < 32
        · have hsz := HP.out.2.2
          have x1 := str_index s (2 * t) (by omega)
          have x2 := str_index s (2 * t + 1) (by omega)
          have hset := unP_set (bl s) t ht
          have l1 := bl_bytes s (2 * t)
          have l2 := bl_bytes s (2 * t + 1)
          have c := K2.u8 (i := t) (by rw [unP_length _ _ (by omega)]; omega)
          have f := K2.frozen t
          simp only [Int.natCast_add, Int.natCast_mul, Int.cast_ofNat_Int] at x1 x2
          generalize hc1 : (bl s).getD (2 * t) 0 = c1 at *
          generalize hc2 : (bl s).getD (2 * t + 1) 0 = c2 at *
          generalize (unP (bl s) t).getD t 0 = y at *
          have bn := bits_nib ⟨nib c1, nib_lt c1⟩ ⟨nib c2, nib_lt c2⟩
          simp only at bn
          have n1 := nib_lt c1
          have n2 := nib_lt c2
          have HE := Lib.hid (And.intro hall (And.intro K1 (And.intro K2 (And.intro B0 (And.intro hset (And.intro hc1 (And.intro hc2 hsz))))))); clear hall K1 K2 B0 hset hc1 hc2 hsz
          generalize hN1 : nib c1 = m1 at *
          generalize hN2 : nib c2 = m2 at *
          have HM := Lib.hid (And.intro hN1 hN2)
          generalize hG1 : isNib c1 = g1 at *
          generalize hG2 : isNib c2 = g2 at *
          have HG := Lib.hid (And.intro hG1 hG2)
          have k1 : ∀ W : World, Calls Tryd.prog 71 #[.int .u8 c1] W fun e w' => e = .returned (.tuple #[.int .u8 m1, .bool g1]) ∧ W = w' := fun W => by rw [← hN1, ← hG1]; exact nibble_any c1 l1 W
          have k2 : ∀ W : World, Calls Tryd.prog 71 #[.int .u8 c2] W fun e w' => e = .returned (.tuple #[.int .u8 m2, .bool g2]) ∧ W = w' := fun W => by rw [← hN2, ← hG2]; exact nibble_any c2 l2 W
          have HK := Lib.hid (And.intro k1 k2)
          clear hN1 hN2 hG1 hG2 k1 k2
          go_wp2_with fail
          refine (HK.out.1 _).mono ?_; rintro e w' ⟨rfl, rfl⟩
          go_wp2_with fail
          refine (HK.out.2 _).mono ?_; rintro e w' ⟨rfl, rfl⟩
          cases g1
          · go_wp2_with (first
              | (refine wpList_build rfl 25 _ rfl (by kernel_rfl) ?_)
              | (refine wpList_store_row rfl 25 (.tmp 2) (.tmp 46) rfl w.heap.size (u8s (zer 32)) rfl ?hy 25 (u8s (zer 32)) HE.out.2.1 (size25 _ rfl) rfl (u8s_one _) ?_))
            case hy => first | exact built25 | exact congrArg Value.agg built25
            obtain ⟨hall, K1, K2, B0, hset, hc1, hc2, hsz⟩ := HE.out
            refine bodyPost_ret (v := .tuple #[.agg (u8s (zer 32)), .int .i64 3]) (results_cell_row2 (p := 2) (u := 3) rfl _ _ w.heap.size 25 _ (0, 0) _ rfl (K1.setRow _) Tryd.underlying25 rfl (size25 _ rfl)) rfl
              ⟨?_, below_setRow' B0 (Nat.le_refl _) _⟩
            have hno : ((List.range 32).all fun i => isNib ((bl s).getD (2 * i) 0) && isNib ((bl s).getD (2 * i + 1) 0)) = false := by
              rw [List.all_eq_false]
              refine ⟨t, List.mem_range.2 ht, ?_⟩
              rw [hc1, hc2, HG.out.1, HG.out.2]; simp
            rw [HP.out.1, hno]; rfl
          · cases g2
            · go_wp2_with (first
              | (refine wpList_build rfl 25 _ rfl (by kernel_rfl) ?_)
              | (refine wpList_store_row rfl 25 (.tmp 2) (.tmp 46) rfl w.heap.size (u8s (zer 32)) rfl ?hy 25 (u8s (zer 32)) HE.out.2.1 (size25 _ rfl) rfl (u8s_one _) ?_))
              case hy => first | exact built25 | exact congrArg Value.agg built25
              obtain ⟨hall, K1, K2, B0, hset, hc1, hc2, hsz⟩ := HE.out
              refine bodyPost_ret (v := .tuple #[.agg (u8s (zer 32)), .int .i64 3]) (results_cell_row2 (p := 2) (u := 3) rfl _ _ w.heap.size 25 _ (0, 0) _ rfl (K1.setRow _) Tryd.underlying25 rfl (size25 _ rfl)) rfl
                ⟨?_, below_setRow' B0 (Nat.le_refl _) _⟩
              have hno : ((List.range 32).all fun i => isNib ((bl s).getD (2 * i) 0) && isNib ((bl s).getD (2 * i + 1) 0)) = false := by
                rw [List.all_eq_false]
                refine ⟨t, List.mem_range.2 ht, ?_⟩
                rw [hc1, hc2, HG.out.1, HG.out.2]; simp
              rw [HP.out.1, hno]; rfl
            · go_wp2_with fail
              go_roundg (gk - 1)
              case measure => have := HTK.out; omega
              case rel =>
                obtain ⟨hall, K1, K2, B0, hset, hc1, hc2, hsz⟩ := HE.out
                refine ⟨t + 1, by have := HTK.out; omega, by go_num, fun j hj => ?_, K1.far (by simp) _, ?_, B0.setCell (by simp) _⟩
                · rcases Nat.lt_or_ge j t with h | h
                  · exact hall j h
                  · obtain rfl : j = t := by omega
                    rw [hc1, hc2, HG.out.1, HG.out.2]; exact ⟨rfl, rfl⟩
                · exact K2.set8 _ _ hset
        · obtain rfl : t = 32 := by have := HTK.out; omega
          clear ht
          rw [unP_full] at K2
          have hl32 := unhex_length (bl s)
          have HL := Lib.hid hl32; clear hl32
          have HE := Lib.hid (And.intro hall (And.intro K1 (And.intro K2 B0))); clear hall K1 K2 B0
          go_wp2_with (first
            | (refine wpList_load_row rfl 25 (.tmp 4) rfl (w.heap.size + 1) rfl 25 (u8s (unhex (bl s))) (0, 0) _ HE.out.2.2.1 Tryd.underlying25 rfl (size25 _ HL.out) ?_)
            | (refine wpList_store_row rfl 25 (.tmp 2) (.tmp 54) rfl w.heap.size (u8s (unhex (bl s))) rfl rfl 25 (u8s (zer 32)) HE.out.2.1 (size25 _ HL.out) (by rw [u8s_size, u8s_size, HL.out]; rfl) (u8s_one _) ?_))
          obtain ⟨hall, K1, K2, B0⟩ := HE.out
          refine bodyPost_ret (v := .tuple #[.agg (u8s (unhex (bl s))), .int .i64 0]) (results_cell_row2 (p := 2) (u := 3) rfl _ _ w.heap.size 25 _ (0, 0) _ rfl (K1.setRow _) Tryd.underlying25 rfl (size25 _ HL.out)) rfl
              ⟨?_, below_setRow' B0 (Nat.le_refl _) _⟩
          have hyes : ((List.range 32).all fun i => isNib ((bl s).getD (2 * i) 0) && isNib ((bl s).getD (2 * i + 1) 0)) = true := by
            rw [List.all_eq_true]
            intro j hj
            have := hall j (List.mem_range.1 hj)
            rw [this.1, this.2]; rfl
          rw [HP.out.1, hyes]; rfl
end Go.Proofs.YtediocpdpghbfaaDoor
namespace Go.Proofs.YtediocpdpghbfaaDoor
open Go Go.RowKit

theorem nil_text : ((strOf (hexL (sha []))).toList == [101, 51, 98, 48, 99, 52, 52, 50, 57, 56, 102, 99, 49, 99, 49, 52, 57, 97, 102, 98, 102, 52, 99, 56, 57, 57, 54, 102, 98, 57, 50, 52, 50, 55, 97, 101, 52, 49, 101, 52, 54, 52, 57, 98, 57, 51, 52, 99, 97, 52, 57, 53, 57, 57, 49, 98, 55, 56, 53, 50, 98, 56, 53, 53]) = true := by rw [sha_nil]; decide +kernel
theorem abc_text : ((strOf (hexL (sha [97, 98, 99]))).toList == [98, 97, 55, 56, 49, 54, 98, 102, 56, 102, 48, 49, 99, 102, 101, 97, 52, 49, 52, 49, 52, 48, 100, 101, 53, 100, 97, 101, 50, 50, 50, 51, 98, 48, 48, 51, 54, 49, 97, 51, 57, 54, 49, 55, 55, 97, 57, 99, 98, 52, 49, 48, 102, 102, 54, 49, 102, 50, 48, 48, 49, 53, 97, 100]) = true := by rw [sha_abc]; decide +kernel
theorem RB.nil (w : World) (g : Nat) (A : Option Addr) : RB w g A [] := fun h => absurd rfl h
theorem bytes_abc : Bytes [97, 98, 99] := Bytes.of_mem (by decide)

set_option maxRecDepth 100000 in
theorem known_any (w : World) (hT : Tabs w) : Calls Tryd.prog 19 #[] w fun e w' => e = .returned (.bool true) ∧ Below w.heap.size w w' := by
  have hw2 := hT.two
  have HT := Lib.hid hT; clear hT
  go_enter Tryd.func19, Tryd.ntmps19
  go_wp2_with fail
  refine (sum_any w HT.out [] none 0 (Nat.le_refl _) Bytes.nil (RB.nil _ _ _) (by simp)).mono ?_
  rintro e w1 ⟨rfl, B1⟩
  have H1 := Lib.hid B1; clear B1
  go_wp2_with fail
  refine (string_any w1 (sha []) (sha_length _) (Bytes.sha _)).mono ?_
  rintro e w2 ⟨rfl, B2⟩
  have H2 := Lib.hid B2; clear B2
  have hnt := nil_text
  have hat := abc_text
  generalize sha [] = s0 at *
  generalize hs1 : sha [97, 98, 99] = s1 at *
  have HS1 := Lib.hid hs1; clear hs1
  have kc := fun (w : World) (C : Array Value) (n c : Nat) => Lib.run_convert_bytes_const (P := Tryd.prog) w 22 5 C n c Tryd.underlying22 Tryd.underlying5
  go_wp2_with fail
  have hb : Below w2.heap.size w2 (w2.alloc (.cells #[.int .u8 97, .int .u8 98, .int .u8 99] 5 (3, 4))) := (Below.refl _ _).alloc (Nat.le_refl _) _
  have hT2 : Tabs (w2.alloc (.cells #[.int .u8 97, .int .u8 98, .int .u8 99] 5 (3, 4))) := by
    have h1 := HT.out.below H1.out hw2
    have h2 := h1.below H2.out h1.two
    exact h2.below hb h2.two
  have hr : RB (w2.alloc (.cells #[.int .u8 97, .int .u8 98, .int .u8 99] 5 (3, 4))) (w2.alloc (.cells #[.int .u8 97, .int .u8 98, .int .u8 99] 5 (3, 4))).heap.size (some ⟨w2.heap.size, 0, none⟩) [97, 98, 99] := by
    refine fun _ => ⟨w2.heap.size, 0, rfl, by simp, by simp, fun j hj => ?_⟩
    have := cell_of_row (w2.alloc (.cells #[.int .u8 97, .int .u8 98, .int .u8 99] 5 (3, 4))) w2.heap.size (0 + j) _ 5 (3, 4) (heap_alloc_new w2 _)
    rw [this, Nat.zero_add]
    match j, hj with
    | 0, _ => rfl
    | 1, _ => rfl
    | 2, _ => rfl
  have HR := Lib.hid (And.intro hb (And.intro hT2 hr)); clear hb hT2 hr
  refine (sum_any _ HR.out.2.1 [97, 98, 99] _ 3 (Nat.le_refl _) bytes_abc HR.out.2.2 (by simp)).mono ?_
  rintro e w3 ⟨rfl, B3⟩
  have H3 := Lib.hid B3; clear B3
  rw [HS1.out]
  go_wp2_with fail
  refine (string_any w3 s1 (by rw [← HS1.out]; exact sha_length _) (by rw [← HS1.out]; exact Bytes.sha _)).mono ?_
  rintro e w4 ⟨rfl, B4⟩
  have H4 := Lib.hid B4; clear B4
  go_wp2_with fail
  go_ret
  refine ⟨by rfl, ?_⟩
  have l1 := H1.out.size
  have l2 := H2.out.size
  have l3 := H3.out.size
  have b3 := HR.out.1.trans (H3.out.mono (by simp))
  exact H1.out.trans ((H2.out.mono l1).trans ((b3.mono (by omega)).trans (H4.out.mono (by simp at l3; omega))))
end Go.Proofs.YtediocpdpghbfaaDoor
namespace Go.Proofs.YtediocpdpghbfaaDoor

/-- the inner loop of mul: digit k of b times the digit ai, from the place i on; 'none': the fuel is spent, a place lies outside, or a number does not fit -/
def innerL (ai : Nat) (b : List Nat) (i : Nat) : Nat → Nat → Nat → List Nat → Option (List Nat)
  | 0, _, _, _ => none
  | f + 1, k, c, o =>
    if k < b.length ∨ 0 < c then
      if i + k < o.length ∧ o.getD (i + k) 0 + c + ai * b.getD k 0 < 18446744073709551616 then
        innerL ai b i f (k + 1) ((o.getD (i + k) 0 + c + ai * b.getD k 0) / 65536) (o.set (i + k) ((o.getD (i + k) 0 + c + ai * b.getD k 0) % 65536))
      else none
    else some o
/-- the outer loop: n digits of a are still to come, the next is digit i -/
def outerL (a b : List Nat) (F : Nat) : Nat → Nat → List Nat → Option (List Nat)
  | 0, _, o => some o
  | n + 1, i, o => match innerL (a.getD i 0) b i F 0 0 o with
    | some o' => outerL a b F n (i + 1) o'
    | none => none
def mulL (a b : List Nat) : Option (List Nat) := outerL a b (a.length + b.length + 2) a.length 0 (List.replicate (a.length + b.length + 1) 0)
/-- n digits are still to be compared -/
def gtL (a b : List Nat) : Nat → Bool
  | 0 => false
  | n + 1 => if a.getD n 0 = b.getD n 0 then gtL a b n else decide (b.getD n 0 < a.getD n 0)
def greaterL (a b : List Nat) : Bool := gtL a b (a.length + b.length + 1)
def ofL (n : Nat) : List Nat := [n % 65536, n / 65536 % 65536, n / 4294967296 % 65536, n / 281474976710656]
/-- the product of the power and n times y -/
def powL (y : Nat) : Nat → List Nat → Option (List Nat)
  | 0, pw => some pw
  | n + 1, pw => match mulL pw (ofL y) with
    | some pw' => powL y n pw'
    | none => none
/-- n bits are still to be tried -/
def rootL (most : List Nat) (k : Nat) : Nat → Nat → Option Nat
  | 0, x => some x
  | n + 1, x => match powL (x + 2 ^ n) (k - 1) (ofL (x + 2 ^ n)) with
    | some pw => rootL most k n (if greaterL pw most then x else x + 2 ^ n)
    | none => none
def rootOf (p k : Nat) : Option Nat := rootL (List.replicate (2 * k) 0 ++ [p]) k 38 0

/-! ### what the functions compute, as numbers -/
/-- the number that the first n digits of a are -/
def V (a : List Nat) : Nat → Nat
  | 0 => 0
  | n + 1 => V a n + a.getD n 0 * 65536 ^ n
/-- all digits are below 65536 -/
def Dig (a : List Nat) : Prop := ∀ i, a.getD i 0 < 65536

theorem V_lt (a : List Nat) (h : Dig a) (n : Nat) : V a n < 65536 ^ n := by
  induction n with
  | zero => simp [V]
  | succ n ih =>
    have h1 := h n
    have h2 : (a.getD n 0 + 1) * 65536 ^ n ≤ 65536 * 65536 ^ n := Nat.mul_le_mul_right _ (by omega)
    rw [Nat.add_mul, Nat.one_mul] at h2
    rw [V, Nat.pow_succ, Nat.mul_comm (65536 ^ n)]
    omega
theorem V_mono (a : List Nat) (n m : Nat) (h : n ≤ m) : V a n ≤ V a m := by
  induction m with
  | zero => obtain rfl : n = 0 := by omega
            exact Nat.le_refl _
  | succ m ih =>
    by_cases e : n = m + 1
    · subst e; exact Nat.le_refl _
    · exact Nat.le_trans (ih (by omega)) (by rw [V]; omega)
theorem V_stable (a : List Nat) (n : Nat) (h : a.length ≤ n) : V a n = V a a.length := by
  induction n with
  | zero => rw [show a.length = 0 by omega]
  | succ n ih =>
    by_cases e : a.length = n + 1
    · rw [e]
    · rw [V, ih (by omega), List.getD_eq_getElem?_getD, List.getElem?_eq_none (by omega)]; simp
theorem getD_set (l : List Nat) (j i d : Nat) (hj : j < l.length) : (l.set j d).getD i 0 = if i = j then d else l.getD i 0 := by
  by_cases e : i = j
  · subst e; rw [if_pos rfl]; simp [List.getD_eq_getElem?_getD, hj]
  · rw [if_neg e, List.getD_eq_getElem?_getD, List.getElem?_set_ne (by omega), ← List.getD_eq_getElem?_getD]
theorem V_set (o : List Nat) (j d n : Nat) (hj : j < o.length) (hn : j < n) : V (o.set j d) n + o.getD j 0 * 65536 ^ j = V o n + d * 65536 ^ j := by
  induction n with
  | zero => omega
  | succ n ih =>
    rw [V, V, getD_set _ _ _ _ hj]
    by_cases e : n = j
    · subst e
      have : ∀ m, m ≤ n → V (o.set n d) m = V o m := by
        intro m hm
        induction m with
        | zero => rfl
        | succ m ihm => rw [V, V, ihm (by omega), getD_set _ _ _ _ hj, if_neg (by omega)]
      rw [if_pos rfl, this n (Nat.le_refl _)]; omega
    · rw [if_neg e]
      have := ih (by omega)
      omega
theorem Dig.set {o : List Nat} (h : Dig o) (j d : Nat) (hj : j < o.length) (hd : d < 65536) : Dig (o.set j d) := by
  intro i
  rw [getD_set _ _ _ _ hj]
  split
  · exact hd
  · exact h i

theorem innerL_val (ai : Nat) (b : List Nat) (i : Nat) (hai : ai < 65536) (hb : Dig b) (N R0 : Nat) (hN : i + b.length ≤ N) (htot : R0 + ai * 65536 ^ i * V b b.length < 65536 ^ N) :
    ∀ (F k c : Nat) (o : List Nat), o.length = N → Dig o → c < 65536 → i + k ≤ N → N < i + k + F → V o N + c * 65536 ^ (i + k) = R0 + ai * 65536 ^ i * V b k →
      ∃ o', innerL ai b i F k c o = some o' ∧ o'.length = N ∧ Dig o' ∧ V o' N = R0 + ai * 65536 ^ i * V b b.length := by
  intro F
  induction F with
  | zero => intro k c o _ _ _ h1 h2; omega
  | succ F ih =>
    intro k c o hl ho hc hk hF hinv
    by_cases hgo : k < b.length ∨ 0 < c
    · have hj : i + k < N := by
        rcases hgo with h | h
        · omega
        · by_cases hkb : k < b.length
          · omega
          · rw [V_stable b k (by omega)] at hinv
            have h1 : 65536 ^ (i + k) ≤ c * 65536 ^ (i + k) := Nat.le_mul_of_pos_left _ h
            have h2 : 65536 ^ (i + k) < 65536 ^ N := by omega
            exact (Nat.pow_lt_pow_iff_right (by omega)).1 h2
      have b1 := ho (i + k)
      have b2 := hb k
      have b3 : ai * b.getD k 0 ≤ 65535 * 65535 := Nat.mul_le_mul (by omega) (by omega)
      rw [innerL, if_pos hgo, if_pos ⟨by omega, by omega⟩]
      obtain ⟨t, ht⟩ : ∃ t, t = o.getD (i + k) 0 + c + ai * b.getD k 0 := ⟨_, rfl⟩
      rw [← ht]
      refine ih (k + 1) (t / 65536) (o.set (i + k) (t % 65536)) (by simpa using hl) (ho.set _ _ (by omega) (Nat.mod_lt _ (by omega))) (by omega) (by omega) (by omega) ?_
      have h1 := V_set o (i + k) (t % 65536) N (by omega) hj
      have h2 : (t / 65536) * 65536 ^ (i + k + 1) + (t % 65536) * 65536 ^ (i + k) = t * 65536 ^ (i + k) := by
        rw [Nat.pow_succ, Nat.mul_comm (65536 ^ (i + k)), ← Nat.mul_assoc, ← Nat.add_mul, Nat.mul_comm (t / 65536), Nat.div_add_mod]
      have h3 : t * 65536 ^ (i + k) = o.getD (i + k) 0 * 65536 ^ (i + k) + c * 65536 ^ (i + k) + ai * b.getD k 0 * 65536 ^ (i + k) := by rw [ht, Nat.add_mul, Nat.add_mul]
      have h4 : ai * 65536 ^ i * V b (k + 1) = ai * 65536 ^ i * V b k + ai * b.getD k 0 * 65536 ^ (i + k) := by
        rw [V, Nat.mul_add, Nat.pow_add]
        congr 1
        rw [Nat.mul_assoc, Nat.mul_assoc]
        congr 1
        rw [← Nat.mul_assoc, Nat.mul_comm (65536 ^ i) (b.getD k 0), Nat.mul_assoc]
      rw [show i + (k + 1) = i + k + 1 by omega]
      omega
    · refine ⟨o, by rw [innerL, if_neg hgo], hl, ho, ?_⟩
      have hc0 : c = 0 := by omega
      rw [hc0, Nat.zero_mul, Nat.add_zero] at hinv
      rw [hinv, V_stable b k (by omega)]

theorem outerL_val (a b : List Nat) (ha : Dig a) (hb : Dig b) (F : Nat) (hF : a.length + b.length + 1 < F) :
    ∀ (n i : Nat) (o : List Nat), i + n = a.length → o.length = a.length + b.length + 1 → Dig o → V o (a.length + b.length + 1) = V a i * V b b.length →
      ∃ o', outerL a b F n i o = some o' ∧ o'.length = a.length + b.length + 1 ∧ Dig o' ∧ V o' (a.length + b.length + 1) = V a a.length * V b b.length := by
  intro n
  induction n with
  | zero => intro i o hi hl ho hv; exact ⟨o, rfl, hl, ho, by rw [hv, show i = a.length by omega]⟩
  | succ n ih =>
    intro i o hi hl ho hv
    have e1 : V a (i + 1) * V b b.length = V a i * V b b.length + a.getD i 0 * 65536 ^ i * V b b.length := by rw [V, Nat.add_mul]
    have hlt : V a (i + 1) * V b b.length < 65536 ^ (a.length + b.length + 1) := by
      have h1 := V_lt a ha (i + 1)
      have h2 := V_lt b hb b.length
      have h3 : V a (i + 1) * V b b.length ≤ 65536 ^ (i + 1) * 65536 ^ b.length := Nat.mul_le_mul (by omega) (by omega)
      rw [← Nat.pow_add] at h3
      exact Nat.lt_of_le_of_lt h3 ((Nat.pow_lt_pow_iff_right (by omega)).2 (by omega))
    obtain ⟨o', h1, h2, h3, h4⟩ := innerL_val (a.getD i 0) b i (ha i) hb (a.length + b.length + 1) (V a i * V b b.length) (by omega) (by rw [← e1]; exact hlt) F 0 0 o hl ho (by omega) (by omega) (by omega) (by rw [hv, Nat.zero_mul, show V b 0 = 0 from rfl, Nat.mul_zero])
    rw [outerL, h1]
    exact ih (i + 1) o' (by omega) h2 h3 (by rw [h4, e1])
theorem V_zeros (n m : Nat) : V (List.replicate n 0) m = 0 := by
  induction m with
  | zero => rfl
  | succ m ih => rw [V, ih]; simp [List.getD_eq_getElem?_getD, List.getElem?_replicate]; split <;> simp
theorem Dig_zeros (n : Nat) : Dig (List.replicate n 0) := by
  intro i; simp [List.getD_eq_getElem?_getD, List.getElem?_replicate]; split <;> simp
theorem mulL_val (a b : List Nat) (ha : Dig a) (hb : Dig b) : ∃ o, mulL a b = some o ∧ o.length = a.length + b.length + 1 ∧ Dig o ∧ V o o.length = V a a.length * V b b.length := by
  obtain ⟨o, h1, h2, h3, h4⟩ := outerL_val a b ha hb (a.length + b.length + 2) (by omega) a.length 0 (List.replicate (a.length + b.length + 1) 0) (by omega) (by simp) (Dig_zeros _) (by rw [V_zeros]; simp [V])
  exact ⟨o, h1, h2, h3, by rw [h2, h4]⟩

theorem gtL_val (a b : List Nat) (ha : Dig a) (hb : Dig b) (n : Nat) : gtL a b n = decide (V b n < V a n) := by
  induction n with
  | zero => simp [gtL, V]
  | succ n ih =>
    rw [gtL, V, V]
    have h1 := V_lt a ha n
    have h2 := V_lt b hb n
    by_cases e : a.getD n 0 = b.getD n 0
    · rw [if_pos e, ih, e]; congr 1; simp
    · rw [if_neg e]
      by_cases l : b.getD n 0 < a.getD n 0
      · have : (b.getD n 0 + 1) * 65536 ^ n ≤ a.getD n 0 * 65536 ^ n := Nat.mul_le_mul_right _ l
        rw [Nat.add_mul, Nat.one_mul] at this
        rw [decide_eq_true l, decide_eq_true (by omega)]
      · have : (a.getD n 0 + 1) * 65536 ^ n ≤ b.getD n 0 * 65536 ^ n := Nat.mul_le_mul_right _ (by omega)
        rw [Nat.add_mul, Nat.one_mul] at this
        rw [decide_eq_false l, decide_eq_false (by omega)]
theorem greaterL_val (a b : List Nat) (ha : Dig a) (hb : Dig b) : greaterL a b = decide (V b b.length < V a a.length) := by
  rw [greaterL, gtL_val a b ha hb, V_stable a _ (by omega), V_stable b _ (by omega)]
theorem Dig.of_mem {l : List Nat} (h : ∀ x ∈ l, x < 65536) : Dig l := by
  intro i
  rcases Nat.lt_or_ge i l.length with hi | hi
  · rw [List.getD_eq_getElem?_getD, List.getElem?_eq_getElem hi]; exact h _ (List.getElem_mem hi)
  · rw [List.getD_eq_getElem?_getD, List.getElem?_eq_none hi]; simp
theorem ofL_dig (n : Nat) (h : n < 18446744073709551616) : Dig (ofL n) := by
  refine Dig.of_mem fun x hx => ?_
  simp only [ofL, List.mem_cons, List.not_mem_nil, or_false] at hx
  rcases hx with rfl | rfl | rfl | rfl <;> omega
theorem ofL_val (n : Nat) (h : n < 18446744073709551616) : V (ofL n) (ofL n).length = n := by
  simp [ofL, V]
  omega
theorem powL_val (y : Nat) (hy : y < 18446744073709551616) (n : Nat) : ∀ (pw : List Nat) (m : Nat), Dig pw → V pw pw.length = y ^ m → ∃ pw', powL y n pw = some pw' ∧ Dig pw' ∧ V pw' pw'.length = y ^ (m + n) := by
  induction n with
  | zero => intro pw m hd hv; exact ⟨pw, rfl, hd, hv⟩
  | succ n ih =>
    intro pw m hd hv
    obtain ⟨o, h1, _, h3, h4⟩ := mulL_val pw (ofL y) hd (ofL_dig y hy)
    rw [hv, ofL_val y hy, ← Nat.pow_succ] at h4
    obtain ⟨pw', e1, e2, e3⟩ := ih o (m + 1) h3 h4
    exact ⟨pw', by rw [powL, h1]; exact e1, e2, by rw [e3]; congr 1; omega⟩
theorem rootL_val (most : List Nat) (hm : Dig most) (k : Nat) (hk : 1 ≤ k) : ∀ (n x : Nat), n ≤ 38 → x % 2 ^ n = 0 → x + 2 ^ n ≤ 274877906944 → x ^ k ≤ V most most.length → V most most.length < (x + 2 ^ n) ^ k →
    ∃ r, rootL most k n x = some r ∧ r ^ k ≤ V most most.length ∧ V most most.length < (r + 1) ^ k := by
  intro n
  induction n with
  | zero => intro x _ _ _ h1 h2; exact ⟨x, rfl, h1, by simpa using h2⟩
  | succ n ih =>
    intro x hn hx0 hx h1 h2
    have hp : 2 ^ (n + 1) = 2 ^ n + 2 ^ n := by rw [Nat.pow_succ]; omega
    have hy : x + 2 ^ n < 18446744073709551616 := by omega
    obtain ⟨pw, e1, e2, e3⟩ := powL_val (x + 2 ^ n) hy (k - 1) (ofL (x + 2 ^ n)) 1 (ofL_dig _ hy) (by rw [ofL_val _ hy, Nat.pow_one])
    rw [show 1 + (k - 1) = k by omega] at e3
    rw [rootL, e1]
    simp only
    rw [greaterL_val pw most e2 hm, e3]
    have hdvd : ∃ q, x = 2 ^ (n + 1) * q := ⟨x / 2 ^ (n + 1), by have := Nat.div_add_mod x (2 ^ (n + 1)); omega⟩
    obtain ⟨q, hq⟩ := hdvd
    have hx1 : x % 2 ^ n = 0 := by rw [hq, hp, ← Nat.two_mul, Nat.mul_comm 2, Nat.mul_assoc]; exact Nat.mul_mod_right _ _
    have hx2 : (x + 2 ^ n) % 2 ^ n = 0 := by rw [Nat.add_mod_right]; exact hx1
    by_cases hg : V most most.length < (x + 2 ^ n) ^ k
    · rw [decide_eq_true hg, if_pos rfl]
      exact ih x (by omega) hx1 (by omega) h1 hg
    · rw [decide_eq_false hg, if_neg (by simp)]
      exact ih (x + 2 ^ n) (by omega) hx2 (by omega) (by omega) (by rw [Nat.add_assoc, ← hp]; exact h2)
/-- the root is the greatest number whose k-th power is at most p * 2^(32k) -/
theorem rootOf_val (p k r : Nat) (hk : k = 2 ∨ k = 3) (hp : p < 1000) (h1 : r ^ k ≤ p * 65536 ^ (2 * k)) (h2 : p * 65536 ^ (2 * k) < (r + 1) ^ k) : rootOf p k = some r := by
  have hd : Dig (List.replicate (2 * k) 0 ++ [p]) := Dig.of_mem fun x hx => by
    simp only [List.mem_append, List.mem_replicate, List.mem_singleton] at hx
    omega
  have hv : V (List.replicate (2 * k) 0 ++ [p]) (List.replicate (2 * k) 0 ++ [p]).length = p * 65536 ^ (2 * k) := by
    rcases hk with rfl | rfl <;> simp [V]
  have hlt : V (List.replicate (2 * k) 0 ++ [p]) (List.replicate (2 * k) 0 ++ [p]).length < (0 + 2 ^ 38) ^ k := by
    rw [hv]; rcases hk with rfl | rfl <;> simp <;> omega
  obtain ⟨r', e1, e2, e3⟩ := rootL_val (List.replicate (2 * k) 0 ++ [p]) hd k (by omega) 38 0 (by omega) (by simp) (by simp) (by rw [hv]; rcases hk with rfl | rfl <;> simp) hlt
  rw [rootOf, e1, hv] at *
  congr 1
  have u1 : r' < r + 1 := by
    apply Classical.byContradiction; intro h
    have := Nat.pow_le_pow_left (show r + 1 ≤ r' by omega) k
    omega
  have u2 : r < r' + 1 := by
    apply Classical.byContradiction; intro h
    have := Nat.pow_le_pow_left (show r' + 1 ≤ r by omega) k
    omega
  omega

def PR : List Nat := [2, 3, 5, 7, 11, 13, 17, 19, 23, 29, 31, 37, 41, 43, 47, 53, 59, 61, 67, 71, 73, 79, 83, 89, 97, 101, 103, 107, 109, 113, 127, 131, 137, 139, 149, 151, 157, 163, 167, 173, 179, 181, 191, 193, 197, 199, 211, 223, 227, 229, 233, 239, 241, 251, 257, 263, 269, 271, 277, 281, 283, 293, 307, 311]
/-- the cube roots of the first 64 primes, the square roots of the first eight, times 2^32, rounded down -/
def R3 : List Nat := [5411319704, 6194414737, 7344290767, 8215976869, 9551921755, 10098905585, 11043570340, 11460697813, 12214315672, 13195500289, 13492127166, 14311783875, 14809980276, 15046980094, 15499789991, 16133124468, 16720292289, 16907126662, 17444216262, 17784676812, 17950125167, 18429019306, 18734950876, 19175934170, 19734090066, 20001703533, 20132865992, 20390182855, 20516441075, 20764397895, 21588763473, 21813078375, 22141143685, 22248366392, 22769593852, 22871018771, 23170020180, 23461497531, 23651862830, 23931792517, 24205322401, 24295138891, 24734567280, 24820601251, 24990902297, 25075189284, 25569408389, 26045227120, 26200031510, 26276752392, 26428864332, 26653801653, 26727943347, 27092625994, 27306805839, 27517677555, 27725365998, 27793908591, 27997534228, 28131656200, 28198240250, 28526537963, 28973835255, 29099129074]
def R2 : List Nat := [6074000999, 7439101573, 9603838834, 11363415354, 14244795007, 15485724812, 17708603819, 18721328409]
theorem roots3 : ∀ i : Fin 64, R3.getD i.val 0 ^ 3 ≤ PR.getD i.val 0 * 65536 ^ (2 * 3) ∧ PR.getD i.val 0 * 65536 ^ (2 * 3) < (R3.getD i.val 0 + 1) ^ 3 ∧ R3.getD i.val 0 % 4294967296 = KK.getD i.val 0 ∧ PR.getD i.val 0 < 1000 := by decide +kernel
theorem roots2 : ∀ i : Fin 8, R2.getD i.val 0 ^ 2 ≤ PR.getD i.val 0 * 65536 ^ (2 * 2) ∧ PR.getD i.val 0 * 65536 ^ (2 * 2) < (R2.getD i.val 0 + 1) ^ 2 ∧ R2.getD i.val 0 % 4294967296 = HH.getD i.val 0 := by decide +kernel
theorem root3 (i : Nat) (h : i < 64) : rootOf (PR.getD i 0) 3 = some (R3.getD i 0) ∧ R3.getD i 0 % 4294967296 = KK.getD i 0 :=
  have r := roots3 ⟨i, h⟩
  ⟨rootOf_val _ 3 _ (.inr rfl) r.2.2.2 r.1 r.2.1, r.2.2.1⟩
theorem root2 (i : Nat) (h : i < 8) : rootOf (PR.getD i 0) 2 = some (R2.getD i 0) ∧ R2.getD i 0 % 4294967296 = HH.getD i 0 :=
  have r := roots2 ⟨i, h⟩
  ⟨rootOf_val _ 2 _ (.inl rfl) (roots3 ⟨i, by omega⟩).2.2.2 r.1 r.2.1, r.2.2⟩

/-- the primes below p, as the reference finds them -/
def primesB : Nat → List Nat
  | 0 => []
  | p + 1 => if 2 ≤ p ∧ (primesB p).all (fun q => p % q != 0) then primesB p ++ [p] else primesB p
theorem primes_all : primesB 312 = PR := by decide +kernel
end Go.Proofs.YtediocpdpghbfaaDoor
namespace Go.Proofs.YtediocpdpghbfaaDoor
open Go Go.RowKit

def u64s (l : List Nat) : Array Value := (l.map fun n : Nat => Value.int .u64 (n : Int)).toArray
theorem u64s_size (l : List Nat) : (u64s l).size = l.length := by simp [u64s]
theorem u64s_at (l : List Nat) (i : Nat) (h : i < l.length) : (u64s l)[i]? = some (.int .u64 (l.getD i 0 : Nat)) := by
  simp [u64s, List.getElem?_eq_getElem h, List.getD_eq_getElem?_getD]
theorem u64s_set (l : List Nat) (i n : Nat) : (u64s l).setIfInBounds i (.int .u64 (n : Int)) = u64s (l.set i n) := by simp [u64s, List.map_set]
/-- block g holds, from its head on, the digits l -/
def RD (w : World) (g : Nat) (l : List Nat) : Prop := g < w.heap.size ∧ ∀ j, j < l.length → w.cell? ⟨g, j, none⟩ = some (.int .u64 (l.getD j 0 : Nat))
theorem RD.below {w w' : World} {g B : Nat} {l : List Nat} (h : RD w g l) (hb : Below B w w') (hg : g < B) : RD w' g l :=
  ⟨Nat.lt_of_lt_of_le h.1 hb.size, fun j hj => (hb.cell (p := ⟨g, j, none⟩) hg).trans (h.2 j hj)⟩
theorem Blk.rd {w : World} {g : Nat} {t : TypeId} {l : List Nat} (h : Blk w g t (u64s l)) : RD w g l := ⟨h.lt, fun j hj => (h.cell j).trans (u64s_at l j hj)⟩
theorem Blk.set64 {w : World} {g : Nat} {t : TypeId} {l l' : List Nat} (h : Blk w g t (u64s l)) (i x : Nat) (hl : l.set i x = l') : Blk (w.setCell ⟨g, i, none⟩ (.int .u64 (x : Int))) g t (u64s l') := by
  have := h.set_ i (.int .u64 (x : Int)); rwa [u64s_set, hl] at this

theorem digit_any (l : List Nat) (g cap i : Nat) (w : World) (hr : RD w g l) (hi : i ≤ 4611686018427387904) (hl : l.length ≤ 4611686018427387904) :
    Calls Tryd.prog 92 #[.slice (some ⟨g, 0, none⟩) l.length cap, .int .i64 (i : Int)] w fun e w' => e = .returned (.int .u64 (l.getD i 0 : Nat)) ∧ w = w' := by
  by_cases h : i < l.length
  · have c := hr.2 i h
    generalize l.getD i 0 = x at *
    generalize l.length = n at *
    clear hr
    go_enter Tryd.func92, Tryd.ntmps92
    go_wp2_with fail
    go_ret
    exact ⟨rfl, rfl⟩
  · have e : l.getD i 0 = 0 := by rw [List.getD_eq_getElem?_getD, List.getElem?_eq_none (by omega)]; rfl
    rw [e]
    have h' : decide (i < l.length) = false := by simpa using h
    generalize l.length = n at *
    clear hr e
    go_enter Tryd.func92, Tryd.ntmps92
    go_wp2_with fail
    go_ret
    exact ⟨rfl, rfl⟩

theorem of_any (n : Nat) (hn : n < 18446744073709551616) (w : World) :
    Calls Tryd.prog 87 #[.int .u64 (n : Int)] w fun e w' => e = .returned (.slice (some ⟨w.heap.size, 0, none⟩) 4 4) ∧ Blk w' w.heap.size 70 (u64s (ofL n)) ∧ Below w.heap.size w w' := by
  go_enter Tryd.func87, Tryd.ntmps87
  go_wp2_with fail
  go_ret
  refine ⟨rfl, ?_, (Below.refl _ _).alloc (Nat.le_refl _) _⟩
  have := Blk.new w 70 (u64s (ofL n))
  simp only [ofL, u64s, List.map_cons, List.map_nil, Int.natCast_emod, Int.natCast_ediv] at this
  exact this

theorem greater_any (a b : List Nat) (ga gb ca cb : Nat) (w : World) (ha : RD w ga a) (hb : RD w gb b) (hla : a.length ≤ 1000) (hlb : b.length ≤ 1000) :
    Calls Tryd.prog 89 #[.slice (some ⟨ga, 0, none⟩) a.length ca, .slice (some ⟨gb, 0, none⟩) b.length cb] w fun e w' => e = .returned (.bool (greaterL a b)) ∧ w = w' := by
  have HR := Lib.hid (And.intro ha hb); clear ha hb
  obtain ⟨r, hr⟩ : ∃ r, greaterL a b = r := ⟨_, rfl⟩
  rw [hr]
  unfold greaterL at hr
  have HG := Lib.hid hr; clear hr
  go_enter Tryd.func89, Tryd.ntmps89
  go_wp2_with fail
  go_loopg [5] (a.length + b.length + 2) (fun k v wr => ∃ n : Int, v = .int .i64 n ∧ -1 ≤ n ∧ n ≤ a.length + b.length ∧ k = (n + 2).toNat ∧ gtL a b (n + 1).toNat = r ∧ wr = w)
  case atStart => exact ⟨a.length + b.length, rfl, by omega, by omega, by omega, by rw [← HG.out]; congr 1, rfl⟩
  case round =>
    obtain ⟨n, rfl, h1, h2, hk, hg, rfl⟩ := hrel
    have HK := Lib.hid (And.intro hk hg); clear hk hg HG
    by_cases h0 : 0 ≤ n
    · obtain ⟨n, rfl⟩ := Int.eq_ofNat_of_zero_le h0
      have da := fun W (h : RD W ga a) => digit_any a ga ca n W h (by omega) (by omega)
      have db := fun W (h : RD W gb b) => digit_any b gb cb n W h (by omega) (by omega)
      generalize hx : a.getD n 0 = x at *
      generalize hy : b.getD n 0 = y at *
      have HD := Lib.hid (And.intro da (And.intro db (And.intro hx hy))); clear da db hx hy
      by_cases hxy : x = y
      · subst hxy
        go_wp2_with fail
        refine (HD.out.1 _ HR.out.1).mono ?_; rintro e w' ⟨rfl, rfl⟩
        go_wp2_with fail
        refine (HD.out.2.1 _ HR.out.2).mono ?_; rintro e w' ⟨rfl, rfl⟩
        go_wp2_with fail
        go_roundg (gk - 1)
        case measure => have := HK.out.1; omega
        case rel =>
          obtain ⟨hk, hg⟩ := HK.out
          refine ⟨(n : Int) - 1, rfl, by omega, by omega, by omega, ?_, rfl⟩
          rw [← hg, show ((n : Int) + 1).toNat = n + 1 by omega, show ((n : Int) - 1 + 1).toNat = n by omega, gtL, if_pos (by rw [HD.out.2.2.1, HD.out.2.2.2])]
      · have t : ((x : Int) != (y : Int)) = true := by rw [bne_iff_ne]; omega
        have hr : decide (y < x) = r := by
          rw [← HK.out.2, show ((n : Int) + 1).toNat = n + 1 by omega, gtL, if_neg (by rw [HD.out.2.2.1, HD.out.2.2.2]; exact hxy), HD.out.2.2.1, HD.out.2.2.2]
        have HRR := Lib.hid hr; clear hr
        go_wp2_with fail
        refine (HD.out.1 _ HR.out.1).mono ?_; rintro e w' ⟨rfl, rfl⟩
        go_wp2_with fail
        refine (HD.out.2.1 _ HR.out.2).mono ?_; rintro e w' ⟨rfl, rfl⟩
        go_wp2_with fail
        refine (HD.out.1 _ HR.out.1).mono ?_; rintro e w' ⟨rfl, rfl⟩
        go_wp2_with fail
        refine (HD.out.2.1 _ HR.out.2).mono ?_; rintro e w' ⟨rfl, rfl⟩
        go_wp2_with fail
        go_ret
        refine ⟨?_, rfl⟩
        rw [← HRR.out]
        simp
    · obtain rfl : n = -1 := by omega
      go_wp2_with fail
      go_ret
      have := HK.out.2
      simp [gtL] at this
      rw [← this]
      exact ⟨rfl, rfl⟩
end Go.Proofs.YtediocpdpghbfaaDoor
namespace Go.Proofs.YtediocpdpghbfaaDoor
open Go Go.RowKit

theorem info70 : (Tryd.prog.info? 70).map (fun i => (i.zero, i.size, i.bytes)) = some (some (.int .u64 0), 1, 8) := by kernel_rfl
theorem madeCells_u64 (n : Nat) : madeCells (Value.int .u64 0).cells n = u64s (List.replicate n 0) := by
  unfold madeCells u64s
  apply Array.ext'
  simp [Value.cells, Nat.mod_one, List.map_const']
theorem make_big (n : Nat) (hn : n ≤ 4294967296) (w : World) :
    (Instr.makeSlice 131 (.int .i64 (n : Int)) (.int .i64 (n : Int))).run Tryd.prog w = .ok (.slice (some ⟨w.heap.size, 0, none⟩) n n) (w.alloc (.cells (u64s (List.replicate n 0)) 70)) := by
  obtain ⟨i, hi, hz, hs, hb⟩ := info_parts info70
  have := run_make_rowN (P := Tryd.prog) 131 70 i _ Tryd.underlying131 hi hz .i64 .i64 n n (Nat.le_refl _) (by rw [hb]; omega) (by omega) w
  rwa [hs, Nat.mul_one, madeCells_u64] at this

theorem inner_step (ai : Nat) (b : List Nat) (i f k c : Nat) (o o' : List Nat) (h : innerL ai b i f k c o = some o') :
    ∃ f', f = f' + 1 ∧ ((k < b.length ∨ 0 < c) → i + k < o.length ∧ o.getD (i + k) 0 + c + ai * b.getD k 0 < 18446744073709551616 ∧
      innerL ai b i f' (k + 1) ((o.getD (i + k) 0 + c + ai * b.getD k 0) / 65536) (o.set (i + k) ((o.getD (i + k) 0 + c + ai * b.getD k 0) % 65536)) = some o') ∧
      (¬ (k < b.length ∨ 0 < c) → o = o') := by
  cases f with
  | zero => simp [innerL] at h
  | succ f =>
    refine ⟨f, rfl, fun hgo => ?_, fun hno => ?_⟩
    · rw [innerL, if_pos hgo] at h
      by_cases hr : i + k < o.length ∧ o.getD (i + k) 0 + c + ai * b.getD k 0 < 18446744073709551616
      · rw [if_pos hr] at h; exact ⟨hr.1, hr.2, h⟩
      · rw [if_neg hr] at h; cases h
    · rw [innerL, if_neg hno] at h; exact Option.some.inj h
theorem outer_step (a b : List Nat) (F n i : Nat) (o o' : List Nat) (h : outerL a b F (n + 1) i o = some o') :
    ∃ o2, innerL (a.getD i 0) b i F 0 0 o = some o2 ∧ outerL a b F n (i + 1) o2 = some o' := by
  rw [outerL] at h
  cases hi : innerL (a.getD i 0) b i F 0 0 o with
  | none => rw [hi] at h; cases h
  | some o2 => rw [hi] at h; exact ⟨o2, rfl, h⟩

set_option maxRecDepth 100000 in
theorem mul_any (a b o : List Nat) (ga gb ca cb : Nat) (w : World) (ha : RD w ga a) (hb : RD w gb b) (hla : a.length ≤ 1000) (hlb : b.length ≤ 1000) (ho : mulL a b = some o) :
    Calls Tryd.prog 88 #[.slice (some ⟨ga, 0, none⟩) a.length ca, .slice (some ⟨gb, 0, none⟩) b.length cb] w fun e w' =>
      e = .returned (.slice (some ⟨w.heap.size, 0, none⟩) (a.length + b.length + 1) (a.length + b.length + 1)) ∧ Blk w' w.heap.size 70 (u64s o) ∧ Below w.heap.size w w' := by
  obtain ⟨la, hla'⟩ : ∃ la, a.length = la := ⟨_, rfl⟩
  obtain ⟨lb, hlb'⟩ : ∃ lb, b.length = lb := ⟨_, rfl⟩
  have hmk := make_big (la + lb + 1) (by omega)
  simp only [Int.natCast_add, Int.cast_ofNat_Int] at hmk
  unfold mulL at ho
  rw [hla', hlb'] at ho ⊢
  rw [hla'] at hla
  rw [hlb'] at hlb
  obtain ⟨z, hz⟩ : ∃ z : List Nat, List.replicate (la + lb + 1) 0 = z := ⟨_, rfl⟩
  rw [hz] at ho hmk
  have H0 := Lib.hid (And.intro ha (And.intro hb (And.intro ho (And.intro hla' (And.intro hlb' hz))))); clear ha hb ho hla' hlb' hz
  go_enter Tryd.func88, Tryd.ntmps88
  go_wp2_with fail
  go_loopg [6] la (fun n v wr => ∃ (i : Nat) (o1 : List Nat), v = .int .i64 i ∧ i + n = la ∧ o1.length = la + lb + 1 ∧ outerL a b (la + lb + 2) n i o1 = some o ∧ Blk wr w.heap.size 70 (u64s o1) ∧ Below w.heap.size w wr)
  case atStart => exact ⟨0, z, rfl, by omega, by rw [← H0.out.2.2.2.2.2]; simp, H0.out.2.2.1, Blk.new _ _ _, (Below.refl _ _).alloc (Nat.le_refl _) _⟩
  case round =>
    obtain ⟨i, o1, rfl, hin, hol, hou, E, B0⟩ := hrel
    obtain ⟨wo, rfl⟩ : ∃ wo : World, wo = wr := ⟨_, rfl⟩
    obtain ⟨ko, rfl⟩ : ∃ ko : Nat, ko = gk := ⟨_, rfl⟩
    by_cases hlt : i < la
    · obtain ⟨n, rfl⟩ : ∃ n, ko = n + 1 := ⟨ko - 1, by omega⟩
      obtain ⟨o2, hinn, hout⟩ := outer_step a b _ n i o1 o hou
      have HO := Lib.hid (And.intro hinn (And.intro hout (And.intro E B0))); clear hinn hout E B0 hou
      have HN := Lib.hid hin; clear hin
      go_wp2_with fail
      go_loopg [7, 8] (la + lb + 2) (fun f cv kv wr => ∃ (k c : Nat) (o1 : List Nat), cv = .int .u64 c ∧ kv = .int .i64 k ∧ innerL (a.getD i 0) b i f k c o1 = some o2 ∧ k ≤ la + lb + 1 ∧ o1.length = la + lb + 1 ∧ Blk wr w.heap.size 70 (u64s o1) ∧ Below w.heap.size w wr)
      case atStart => obtain ⟨hinn, hout, E, B0⟩ := HO.out; exact ⟨0, 0, o1, rfl, rfl, hinn, by omega, hol, E, B0⟩
      case round =>
        obtain ⟨k, c, o3, rfl, rfl, hinn, hik, hol3, E, B0⟩ := hrel
        obtain ⟨f, hf, hgo, hno⟩ := inner_step _ b i gk k c o3 o2 hinn
        clear hinn
        have da := (B0.cell (p := ⟨ga, i, none⟩) H0.out.1.1).trans (H0.out.1.2 i (by rw [H0.out.2.2.2.1]; exact hlt))
        generalize hai : a.getD i 0 = ai at *
        by_cases hk : k < lb
        · obtain ⟨g1, g2, g3⟩ := hgo (.inl (by rw [H0.out.2.2.2.2.1]; exact hk))
          have db := (B0.cell (p := ⟨gb, k, none⟩) H0.out.2.1.1).trans (H0.out.2.1.2 k (by rw [H0.out.2.2.2.2.1]; exact hk))
          have dx := (E.cell (i + k)).trans (u64s_at _ _ g1)
          have fx := E.frozen (i + k)
          generalize b.getD k 0 = bk at *
          generalize o3.getD (i + k) 0 = x at *
          obtain ⟨P, hP⟩ : ∃ P, ai * bk = P := ⟨_, rfl⟩
          rw [hP] at g2 g3
          have hPI : (ai : Int) * (bk : Int) = (P : Int) := by rw [← hP, Int.natCast_mul]
          obtain ⟨t, ht⟩ : ∃ t, x + c + P = t := ⟨_, rfl⟩
          rw [ht] at g3
          have g1' : i + k < la + lb + 1 := by omega
          have HE := Lib.hid (And.intro E (And.intro B0 (And.intro g3 (And.intro hf (And.intro hol3 (And.intro ht hai)))))); clear E B0 g3 hgo hno hf hol3 ht hP hai g1
          go_wp2_with fail
          go_region
          go_wp2_with fail
          go_roundg f
          case measure => have := HE.out.2.2.2.1; omega
          case rel =>
            obtain ⟨E, B0, g3, hf, hol3, ht, hai⟩ := HE.out
            have e1 : ((x : Int) + c + P) % 65536 = ((t % 65536 : Nat) : Int) := by omega
            have e2 : ((x : Int) + c + P) / 65536 = ((t / 65536 : Nat) : Int) := by omega
            rw [e1, e2]
            exact ⟨k + 1, t / 65536, o3.set (i + k) (t % 65536), rfl, by go_num, g3, by omega, by simpa using hol3, (E.drew).set64 _ _ rfl, (B0.drew).setCell (by simp) _⟩
        · by_cases hc : 0 < c
          · obtain ⟨g1, g2, g3⟩ := hgo (.inr hc)
            have hbk : b.getD k 0 = 0 := by
              rw [List.getD_eq_getElem?_getD, List.getElem?_eq_none (by rw [H0.out.2.2.2.2.1]; omega)]; rfl
            rw [hbk, Nat.mul_zero, Nat.add_zero] at g2 g3
            have dx := (E.cell (i + k)).trans (u64s_at _ _ g1)
            have fx := E.frozen (i + k)
            generalize o3.getD (i + k) 0 = x at *
            obtain ⟨t, ht⟩ : ∃ t, x + c = t := ⟨_, rfl⟩
            rw [ht] at g3
            have g1' : i + k < la + lb + 1 := by omega
            have tk : decide (k < lb) = false := by simpa using hk
            have HE := Lib.hid (And.intro E (And.intro B0 (And.intro g3 (And.intro hf (And.intro hol3 (And.intro ht hai)))))); clear E B0 g3 hgo hno hf hol3 ht hai g1 hbk
            go_wp2_with fail
            go_roundg f
            case measure => have := HE.out.2.2.2.1; omega
            case rel =>
              obtain ⟨E, B0, g3, hf, hol3, ht, hai⟩ := HE.out
              have e1 : ((x : Int) + c) % 65536 = ((t % 65536 : Nat) : Int) := by omega
              have e2 : ((x : Int) + c) / 65536 = ((t / 65536 : Nat) : Int) := by omega
              rw [e1, e2]
              exact ⟨k + 1, t / 65536, o3.set (i + k) (t % 65536), rfl, by go_num, g3, by omega, by simpa using hol3, E.set64 _ _ rfl, B0.setCell (by simp) _⟩
          · obtain rfl : c = 0 := by omega
            obtain rfl := hno (by rw [H0.out.2.2.2.2.1]; omega)
            have tk : decide (k < lb) = false := by simpa using hk
            have HE := Lib.hid (And.intro E (And.intro B0 (And.intro hol3 hai))); clear E B0 hgo hno hf hol3 hai hc
            go_wp2_with fail
            go_roundg n
            case measure => omega
            case rel =>
              obtain ⟨E, B0, hol3, hai⟩ := HE.out
              obtain ⟨hinn, hout, _, _⟩ := HO.out
              exact ⟨i + 1, o3, by go_num, by have := HN.out; omega, hol3, hout, E, B0⟩
    · obtain rfl : i = la := by omega
      obtain rfl : ko = 0 := by omega
      have hoo : o1 = o := by rw [outerL] at hou; exact Option.some.inj hou
      have HE := Lib.hid (And.intro E (And.intro B0 hoo)); clear E B0 hoo hou hin hol
      go_wp2_with fail
      go_ret
      obtain ⟨E, B0, hoo⟩ := HE.out
      rw [← hoo]
      exact ⟨rfl, E, B0⟩
end Go.Proofs.YtediocpdpghbfaaDoor
namespace Go.Proofs.YtediocpdpghbfaaDoor
open Go Go.RowKit

theorem own_of_blk {w : World} {g n base : Nat} {e : TypeId} {cs : Array Value} (h : Blk w g e cs) (hn : cs.size = n) (hb : base ≤ g) (hm : n ≤ maxLen) :
    w.ownsRow base e 1 (.slice (some ⟨g, 0, none⟩) n n) n cs.toList :=
  ⟨by simp [hn], .inr ⟨g, n, cs, rfl, hb, h, Nat.le_refl _, hm, by omega, by rw [List.take_of_length_le (by simp; omega)]⟩⟩
def u64v (l : List Nat) : List Value := l.map fun n : Nat => Value.int .u64 (n : Int)
theorem u64s_toList (l : List Nat) : (u64s l).toList = u64v l := rfl
theorem u64v_length (l : List Nat) : (u64v l).length = l.length := by simp [u64v]
theorem u64v_append (l r : List Nat) : u64v (l ++ r) = u64v l ++ u64v r := by simp [u64v]
theorem rd_of_own {w : World} {g cap n base : Nat} {e : TypeId} {l : List Nat} (h : w.ownsRow base e 1 (.slice (some ⟨g, 0, none⟩) n cap) n (u64v l)) (hg : g < w.heap.size) : RD w g l := by
  refine ⟨hg, fun j hj => ?_⟩
  have := h.cells (g := g) rfl j (.int .u64 (l.getD j 0 : Nat)) (by simp [u64v, List.getElem?_eq_getElem hj, List.getD_eq_getElem?_getD])
  rwa [addr_add, Nat.zero_add] at this

theorem powL_step (y n : Nat) (pw o : List Nat) (h : powL y (n + 1) pw = some o) : ∃ pw', mulL pw (ofL y) = some pw' ∧ powL y n pw' = some o := by
  rw [powL] at h
  cases hm : mulL pw (ofL y) with
  | none => rw [hm] at h; cases h
  | some pw' => rw [hm] at h; exact ⟨pw', rfl, h⟩
theorem rootL_step (most : List Nat) (k n x r : Nat) (h : rootL most k (n + 1) x = some r) :
    ∃ pw, powL (x + 2 ^ n) (k - 1) (ofL (x + 2 ^ n)) = some pw ∧ rootL most k n (if greaterL pw most then x else x + 2 ^ n) = some r := by
  rw [rootL] at h
  cases hm : powL (x + 2 ^ n) (k - 1) (ofL (x + 2 ^ n)) with
  | none => rw [hm] at h; cases h
  | some pw' => rw [hm] at h; exact ⟨pw', rfl, h⟩
theorem innerL_length (ai : Nat) (b : List Nat) (i : Nat) : ∀ (f k c : Nat) (o o' : List Nat), innerL ai b i f k c o = some o' → o'.length = o.length := by
  intro f
  induction f with
  | zero => intro k c o o' h; simp [innerL] at h
  | succ f ih =>
    intro k c o o' h
    rw [innerL] at h
    split at h
    · split at h
      · have := ih _ _ _ _ h; simpa using this
      · cases h
    · cases h; rfl
theorem outerL_length (a b : List Nat) (F : Nat) : ∀ (n i : Nat) (o o' : List Nat), outerL a b F n i o = some o' → o'.length = o.length := by
  intro n
  induction n with
  | zero => intro i o o' h; rw [outerL] at h; cases h; rfl
  | succ n ih =>
    intro i o o' h
    obtain ⟨o2, h1, h2⟩ := outer_step a b F n i o o' h
    rw [ih _ _ _ h2, innerL_length _ _ _ _ _ _ _ _ h1]
theorem mulL_length (a b o : List Nat) (h : mulL a b = some o) : o.length = a.length + b.length + 1 := by
  rw [mulL] at h; rw [outerL_length _ _ _ _ _ _ _ h]; simp

set_option maxRecDepth 100000 in
theorem root_any (p k r : Nat) (hp : p < 1000) (hk : k = 2 ∨ k = 3) (hr : rootOf p k = some r) (hrl : r < 18446744073709551616) (w : World) :
    Calls Tryd.prog 65 #[.int .u64 (p : Int), .int .i64 (k : Int)] w fun e w' => e = .returned (.int .u32 ((r % 4294967296 : Nat) : Int)) ∧ Below w.heap.size w w' := by
  obtain ⟨i0, hi0, hz0, hz1, hz2⟩ := info_parts info70
  have hmk := make_big (2 * k) (by omega)
  simp only [Int.natCast_mul, Int.cast_ofNat_Int] at hmk
  obtain ⟨z, hz⟩ : ∃ z : List Nat, List.replicate (2 * k) 0 = z := ⟨_, rfl⟩
  unfold rootOf at hr
  rw [hz] at hmk hr
  have hzl : z.length = 2 * k := by rw [← hz]; simp
  have hk23 : 2 ≤ k ∧ k ≤ 3 := by omega
  have hown : (w.alloc (.cells (u64s z) 70)).ownsRow w.heap.size 70 1 (.slice (some ⟨w.heap.size, 0, none⟩) (2 * k) (2 * k)) (2 * k) (u64v z) := by
    have := own_of_blk (base := w.heap.size) (Blk.new w 70 (u64s z)) (by rw [u64s_size, hzl]) (Nat.le_refl _) (n := 2 * k) (by unfold maxLen; omega)
    rwa [u64s_toList] at this
  have hnew : ∀ j u, [Value.int .u64 (p : Int)][j]? = some u → (((w.alloc (.cells (u64s z) 70)).alloc (.cells #[.int .u64 (p : Int)] 70))).cell? ((⟨w.heap.size + 1, 0, none⟩ : Addr).add j) = some u := by
    intro j u hj
    rw [addr_add, Nat.zero_add]
    have := (Blk.new1 w (.cells (u64s z) 70) 70 #[Value.int .u64 (p : Int)]).cell j
    rw [this]; simpa using hj
  have H0 := Lib.hid (And.intro hi0 (And.intro hz0 (And.intro hz1 (And.intro hz2 (And.intro hr (And.intro hzl (And.intro hown hnew))))))); clear hi0 hz0 hz1 hz2 hr hzl hown hnew hk hz
  go_enter Tryd.func65, Tryd.ntmps65
  go_wp2_with (at_builtin; refine wpList_append_own _ rfl (.tmp 13) (.tmp 15) 131 rfl w.heap.size 70 i0 (.int .u64 0) 1 8 Tryd.underlying131 H0.out.1 H0.out.2.1 H0.out.2.2.1 H0.out.2.2.2.1 rfl (by decide) _ _ _ rfl (H0.out.2.2.2.2.2.2.1.alloc _) ⟨w.heap.size + 1, 0, none⟩ 1 1 [.int .u64 (p : Int)] rfl rfl H0.out.2.2.2.2.2.2.2 (by simp [Value.oneCell']) (by unfold maxLen; omega) (by omega) (by simp; omega) ?_; intro v1 w1 hown1 hg1 hn1; have H1 := Lib.hid (And.intro hown1 (And.intro hg1 hn1)); clear hown1 hg1 hn1)
  obtain ⟨gm, cm, rfl, hgm, hgm2⟩ := H1.out.1.form (by omega)
  have B1 : Below w.heap.size w w1 := by
    refine Below.grown (((Below.refl _ _).alloc (Nat.le_refl _) _).alloc (by simp) _) H1.out.2.1 (by simp; omega) (fun q hq => ?_)
    have : q = w.heap.size := by simpa [Act.eval, Value.ownBlock] using hq.symm
    omega
  have R1 : RD w1 gm (z ++ [p]) := rd_of_own (by have := H1.out.1; rwa [show u64v z ++ [Value.int .u64 (p : Int)] = u64v (z ++ [p]) from by rw [u64v_append]; rfl] at this) hgm2
  have hrr := H0.out.2.2.2.2.1
  have hml : (z ++ [p]).length = 2 * k + 1 := by rw [List.length_append, H0.out.2.2.2.2.2.1]; rfl
  generalize z ++ [p] = most at *
  have H2 := Lib.hid (And.intro B1 (And.intro R1 (And.intro hrr hml))); clear B1 R1 hrr hml H1 H0 hmk
  go_wp2_with fail
  go_loopg [6, 7] 39 (fun f xv bv wr => ∃ n x : Nat, xv = .int .u64 x ∧ bv = .int .i64 ((n : Int) - 1) ∧ n ≤ 38 ∧ f = n + 1 ∧ x + 2 ^ n ≤ 274877906944 ∧ rootL most k n x = some r ∧ Below w.heap.size w wr ∧ RD wr gm most)
  case atStart => obtain ⟨B1, R1, hrr, hml⟩ := H2.out; exact ⟨38, 0, rfl, rfl, by omega, rfl, by omega, hrr, B1, R1⟩
  case round =>
    obtain ⟨n, x, rfl, rfl, hn, hf, hx, hrr, B1, R1⟩ := hrel
    obtain ⟨wo, rfl⟩ : ∃ wo : World, wo = wr := ⟨_, rfl⟩
    obtain ⟨ko, rfl⟩ : ∃ ko : Nat, ko = gk := ⟨_, rfl⟩
    cases n with
    | zero =>
      have hxr : x = r := by rw [rootL] at hrr; exact Option.some.inj hrr
      have HE := Lib.hid (And.intro hxr (And.intro hf B1)); clear hxr hf B1 R1 hrr hx H2
      go_wp2_with fail
      go_ret
      obtain ⟨hxr, hf, B1⟩ := HE.out
      subst hxr
      exact ⟨rfl, B1⟩
    | succ n =>
      obtain ⟨pw, hpw, hrr'⟩ := rootL_step most k n x r hrr
      clear hrr
      have hp2 : 2 ^ (n + 1) = 2 ^ n + 2 ^ n := by rw [Nat.pow_succ]; omega
      obtain ⟨q, hq⟩ : ∃ q, 2 ^ n = q := ⟨_, rfl⟩
      rw [hp2, hq] at hx
      rw [hq] at hpw hrr'
      have hqI : (2 : Int) ^ n = (q : Int) := by rw [← hq, Int.natCast_pow]; rfl
      obtain ⟨y, hy⟩ : ∃ y, x + q = y := ⟨_, rfl⟩
      rw [hy] at hpw hrr'
      have hyI : (x : Int) + (q : Int) = (y : Int) := by omega
      have hy64 : y < 18446744073709551616 := by omega
      have hx2 : x + q + q ≤ 274877906944 := by omega
      have hml := H2.out.2.2.2
      have HE := Lib.hid (And.intro hpw (And.intro hrr' (And.intro hf (And.intro B1 (And.intro R1 (And.intro hq hml)))))); clear hpw hrr' hf B1 R1 hp2 hq hy hml H2
      go_wp2_with fail
      refine (of_any y hy64 wo).mono ?_; rintro e w2 ⟨rfl, O1, O2⟩
      have HF := Lib.hid (And.intro O1 O2); clear O1 O2
      go_wp2_with fail
      go_loopg [9, 10] (k - 1) (fun f pv iv wr => ∃ (i : Nat) (pw1 : List Nat) (g1 c1 : Nat), pv = .slice (some ⟨g1, 0, none⟩) pw1.length c1 ∧ iv = .int .i64 i ∧ i + f = k ∧ pw1.length + 1 = 5 * i ∧ powL y f pw1 = some pw ∧
        RD wr g1 pw1 ∧ Below w.heap.size w wr ∧ RD wr gm most)
      case atStart =>
        obtain ⟨hpw, hrr', hf, B1, R1, hq, hml⟩ := HE.out
        obtain ⟨O1, O2⟩ := HF.out
        exact ⟨1, ofL y, wo.heap.size, 4, rfl, rfl, by omega, rfl, hpw, O1.rd, B1.trans (O2.mono B1.size), R1.below O2 R1.1⟩
      case round =>
        obtain ⟨i, pw1, g1, c1, rfl, rfl, hif, hpl, hpw1, RP, BP, RM⟩ := hrel
        by_cases hik : i < k
        · obtain ⟨f, rfl⟩ : ∃ f, gk = f + 1 := ⟨gk - 1, by omega⟩
          obtain ⟨pw2, hm2, hpw2⟩ := powL_step y f pw1 pw hpw1
          have hl2 := mulL_length _ _ _ hm2
          have hofl : (ofL y).length = 4 := rfl
          have HG := Lib.hid (And.intro hif (And.intro hpl (And.intro hm2 (And.intro hpw2 (And.intro RP (And.intro BP RM)))))); clear hif hpl hm2 hpw2 RP BP RM hpw1
          have HL := Lib.hid (And.intro hl2 hofl); clear hl2 hofl
          go_wp2_with fail
          refine (of_any y hy64 wr).mono ?_; rintro e w3 ⟨rfl, P1, P2⟩
          have HP := Lib.hid (And.intro P1 P2); clear P1 P2
          go_wp2_with fail
          refine (mul_any pw1 (ofL y) pw2 g1 wr.heap.size c1 4 w3 (HG.out.2.2.2.2.1.below HP.out.2 HG.out.2.2.2.2.1.1) HP.out.1.rd (by have := HG.out.2.1; have := HG.out.1; omega) (by rw [HL.out.2]; omega) HG.out.2.2.1).mono ?_
          rintro e w4 ⟨rfl, M1, M2⟩
          have HM := Lib.hid (And.intro M1 M2); clear M1 M2
          go_wp2_with fail
          go_roundg f
          case measure => omega
          case rel =>
            obtain ⟨hif, hpl, hm2, hpw2, RP, BP, RM⟩ := HG.out
            obtain ⟨P1, P2⟩ := HP.out
            obtain ⟨M1, M2⟩ := HM.out
            have hl2 := HL.out.1
            have e4 : (ofL y).length = 4 := rfl
            refine ⟨i + 1, pw2, w3.heap.size, pw1.length + 4 + 1, by rw [hl2]; rfl, by go_num, by omega, by rw [hl2, e4]; omega, hpw2, M1.rd, BP.trans ((P2.mono BP.size).trans (M2.mono (Nat.le_trans BP.size P2.size))), (RM.below P2 RM.1).below M2 (Nat.lt_of_lt_of_le RM.1 P2.size)⟩
        · obtain rfl : i = k := by omega
          obtain rfl : gk = 0 := by omega
          have hpp : pw1 = pw := by rw [powL] at hpw1; exact Option.some.inj hpw1
          subst hpp
          obtain ⟨gr, hgr⟩ : ∃ gr, greaterL pw1 most = gr := ⟨_, rfl⟩
          have hml := HE.out.2.2.2.2.2.2
          have HG := Lib.hid (And.intro hpl (And.intro RP (And.intro BP (And.intro RM hml)))); clear hif hpl RP BP RM hpw1 hik hml
          go_wp2_with fail
          rw [← HG.out.2.2.2.2]
          refine (greater_any pw1 most g1 gm c1 cm wr HG.out.2.1 HG.out.2.2.2.1 (by have := HG.out.1; omega) (by have := HG.out.2.2.2.2; omega)).mono ?_
          rintro e w5 ⟨rfl, rfl⟩
          rw [hgr, HG.out.2.2.2.2]
          have HGR := Lib.hid hgr; clear hgr
          cases gr
          · go_wp2_with fail
            go_roundg (n + 1)
            case measure => have := HE.out.2.2.1; omega
            case rel =>
              obtain ⟨hpw, hrr', hf, B1, R1, hq, hml⟩ := HE.out
              obtain ⟨hpl, RP, BP, RM, hml2⟩ := HG.out
              rw [HGR.out] at hrr'
              exact ⟨n, y, rfl, by go_num, by omega, rfl, by rw [hq]; omega, by simpa using hrr', BP, RM⟩
          · go_wp2_with fail
            go_roundg (n + 1)
            case measure => have := HE.out.2.2.1; omega
            case rel =>
              obtain ⟨hpw, hrr', hf, B1, R1, hq, hml⟩ := HE.out
              obtain ⟨hpl, RP, BP, RM, hml2⟩ := HG.out
              rw [HGR.out] at hrr'
              exact ⟨n, x, rfl, by go_num, by omega, rfl, by rw [hq]; omega, by simpa using hrr', BP, RM⟩
end Go.Proofs.YtediocpdpghbfaaDoor
namespace Go.Proofs.YtediocpdpghbfaaDoor
open Go Go.RowKit

theorem primesB_mono (p q : Nat) (h : p ≤ q) : (primesB p).length ≤ (primesB q).length := by
  induction q with
  | zero => obtain rfl : p = 0 := by omega
            exact Nat.le_refl _
  | succ q ih =>
    by_cases e : p = q + 1
    · subst e; exact Nat.le_refl _
    · refine Nat.le_trans (ih (by omega)) ?_
      rw [primesB]; split <;> simp
theorem primesB_311 : (primesB 311).length = 63 := by decide +kernel
theorem primesB_ge (p : Nat) : ∀ x ∈ primesB p, 2 ≤ x ∧ x < p := by
  induction p with
  | zero => simp [primesB]
  | succ p ih =>
    intro x hx
    rw [primesB] at hx
    split at hx
    · rename_i h
      rcases List.mem_append.1 hx with h1 | h1
      · have := ih x h1; omega
      · simp at h1; omega
    · have := ih x hx; omega

theorem own_slice {w : World} {base : Nat} {e : TypeId} {size n : Nat} {v : Value} {xs : List Value} (h : w.ownsRow base e size v n xs) (hs : 0 < size) : ∃ A cap, v = .slice A n cap := by
  rcases h.2 with ⟨rfl, hx⟩ | ⟨g, cap, cur, rfl, _⟩
  · have : n = 0 := by
      have h1 := h.1
      rw [hx] at h1
      simp at h1
      omega
    subst this
    exact ⟨none, 0, rfl⟩
  · exact ⟨_, cap, rfl⟩
theorem own_at {w : World} {base : Nat} {e : TypeId} {n cap : Nat} {A : Option Addr} {l : List Nat} (h : w.ownsRow base e 1 (.slice A n cap) n (u64v l)) {i : Nat} (hi : i < l.length) (hn : l.length = n) :
    ∃ g, A = some ⟨g, 0, none⟩ ∧ base ≤ g ∧ g < w.heap.size ∧ w.cell? ⟨g, i, none⟩ = some (.int .u64 (l.getD i 0 : Nat)) := by
  obtain ⟨g, cap', hv, hb, hlt⟩ := h.form (by omega)
  have hA : A = some ⟨g, 0, none⟩ := by injection hv
  subst hA
  have hr := rd_of_own h hlt
  exact ⟨g, rfl, hb, hlt, hr.2 i hi⟩

theorem one_cell (wr : World) (t : TypeId) (x : Value) : ∀ j u, [x][j]? = some u → (wr.alloc (.cells #[x] t)).cell? ((⟨wr.heap.size, 0, none⟩ : Addr).add j) = some u := by
  intro j u hj
  rw [addr_add, Nat.zero_add, (Blk.new wr t #[x]).cell j]; simpa using hj
set_option maxRecDepth 100000 in
theorem primes_any (w : World) :
    Calls Tryd.prog 64 #[.int .i64 64] w fun e w' => ∃ g cap, e = .returned (.slice (some ⟨g, 0, none⟩) 64 cap) ∧ RD w' g PR ∧ Below w.heap.size w w' := by
  obtain ⟨i0, hi0, hz0, hz1, hz2⟩ := info_parts info70
  have HI := Lib.hid (And.intro hi0 (And.intro hz0 (And.intro hz1 hz2))); clear hi0 hz0 hz1 hz2
  go_enter Tryd.func64, Tryd.ntmps64
  go_wp2_with fail
  go_loopg [3, 4] 310 (fun f v pv wr => ∃ (p : Nat) (L : List Nat), pv = .int .u64 p ∧ (∃ A cap, v = .slice A L.length cap) ∧ p + f = 312 ∧ 2 ≤ p ∧ primesB p = L ∧ wr.ownsRow w.heap.size 70 1 v L.length (u64v L) ∧ Below w.heap.size w wr)
  case atStart => exact ⟨2, [], rfl, ⟨none, 0, rfl⟩, rfl, by omega, by decide, World.ownsRow_nil _ _ _ _, Below.refl _ _⟩
  case round =>
    obtain ⟨p, L, rfl, ⟨A, cap, rfl⟩, hpf, hp2, hL, hown, B0⟩ := hrel
    obtain ⟨wo, rfl⟩ : ∃ wo : World, wo = wr := ⟨_, rfl⟩
    obtain ⟨ko, rfl⟩ : ∃ ko : Nat, ko = gk := ⟨_, rfl⟩
    by_cases hlt : p < 312
    · have hll : L.length < 64 := by have := primesB_mono p 311 (by omega); rw [primesB_311, hL] at this; omega
      have hge := primesB_ge p
      rw [hL] at hge
      have HA := Lib.hid (And.intro hpf (And.intro hL (And.intro hown (And.intro B0 hge)))); clear hpf hL hown B0 hge
      go_wp2_with fail
      go_loopg [5, 6] L.length (fun f bv iv wr => ∃ (i : Nat) (b : Bool), bv = .bool b ∧ iv = .int .i64 i ∧ i + f = L.length ∧ (L.take i).all (fun q => p % q != 0) = b ∧ wr = wo)
      case atStart => exact ⟨0, true, rfl, rfl, by omega, rfl, rfl⟩
      case round =>
        obtain ⟨i, b, rfl, rfl, hif, hb, rfl⟩ := hrel
        by_cases hi : i < L.length
        · obtain ⟨g, rfl, hgb, hglt, hc⟩ := own_at HA.out.2.2.1 hi rfl
          have hq := (HA.out.2.2.2.2 (L.getD i 0) (by rw [List.getD_eq_getElem?_getD, List.getElem?_eq_getElem hi]; exact List.getElem_mem hi)).1
          have htk : (L.take (i + 1)).all (fun q => p % q != 0) = ((L.take i).all (fun q => p % q != 0) && (p % L.getD i 0 != 0)) := by
            rw [List.take_succ_eq_append_getElem hi, List.all_append]; simp [List.getD_eq_getElem?_getD, List.getElem?_eq_getElem hi]
          rw [hb] at htk
          generalize L.getD i 0 = q at *
          have hqp : (1 : Int) ≤ (q : Int) := by omega
          obtain ⟨m, hm⟩ : ∃ m, p % q = m := ⟨_, rfl⟩
          rw [hm] at htk
          have hmI : (p : Int) % (q : Int) = (m : Int) := by rw [← hm, Int.natCast_emod]
          have HB := Lib.hid (And.intro hif (And.intro hb htk)); clear hif hb htk hm
          cases b
          · go_wp2_with fail
            go_roundg (gk - 1)
            case measure => have := HB.out.1; omega
            case rel => exact ⟨i + 1, false, rfl, by go_num, by have := HB.out.1; omega, HB.out.2.2, rfl⟩
          · go_wp2_with fail
            go_roundg (gk - 1)
            case measure => have := HB.out.1; omega
            case rel =>
              refine ⟨i + 1, (m != 0), ?_, by go_num, by have := HB.out.1; omega, by rw [HB.out.2.2]; simp, rfl⟩
              congr 1
              by_cases h0 : m = 0
              · subst h0; rfl
              · have : ((m : Int) == 0) = false := by rw [beq_eq_false_iff_ne]; omega
                simp [bne, this, h0]
        · obtain rfl : i = L.length := by omega
          rw [List.take_length] at hb
          have hpb : primesB (p + 1) = if b then L ++ [p] else L := by
            rw [primesB, HA.out.2.1, hb]
            cases b
            · rw [if_neg (by simp)]; rfl
            · rw [if_pos ⟨hp2, rfl⟩]; rfl
          have HB := Lib.hid (And.intro hb hpb); clear hif hb hpb hi
          cases b
          · go_wp2_with fail
            go_roundg (ko - 1)
            case measure => have := HA.out.1; omega
            case rel =>
              obtain ⟨hpf, hL, hown, B0, hge⟩ := HA.out
              exact ⟨p + 1, L, by go_num, ⟨A, cap, rfl⟩, by omega, by omega, by rw [HB.out.2]; rfl, hown, B0⟩
          · have hnew := one_cell wr 70 (.int .u64 (p : Int))
            have HN := Lib.hid hnew; clear hnew
            go_wp2_with (at_builtin; refine wpList_append_own _ rfl (.tmp 30) (.tmp 32) 95 rfl w.heap.size 70 i0 (.int .u64 0) 1 8 Tryd.underlying95 HI.out.1 HI.out.2.1 HI.out.2.2.1 HI.out.2.2.2 rfl (by decide) _ _ _ rfl (HA.out.2.2.1.alloc _) ⟨wr.heap.size, 0, none⟩ 1 1 [.int .u64 (p : Int)] rfl rfl HN.out (by simp [Value.oneCell']) (by unfold maxLen; omega) (by omega) (by have := HA.out.2.2.2.1.size; simp; omega) ?_; intro v1 w1 hown1 hg1 hn1; have H1 := Lib.hid (And.intro hown1 (And.intro hg1 hn1)); clear hown1 hg1 hn1)
            go_roundg (ko - 1)
            case measure => have := HA.out.1; omega
            case rel =>
              obtain ⟨hpf, hL, hown, B0, hge⟩ := HA.out
              obtain ⟨hown1, hg1, hn1⟩ := H1.out
              refine ⟨p + 1, L ++ [p], by go_num, ?_, by omega, by omega, by rw [HB.out.2]; rfl, ?_, ?_⟩
              · obtain ⟨A', cap', h⟩ := own_slice hown1 (by omega); exact ⟨A', cap', by rw [h]; simp⟩
              · rw [u64v_append]; simpa [u64v] using hown1
              · exact (B0.alloc B0.size _).grown hg1 (by have := B0.size; simp; omega) (fun q hq => (hown.lt q (by simpa [Act.eval] using hq)).1)
    · obtain rfl : p = 312 := by omega
      rw [primes_all] at hL
      subst hL
      obtain ⟨g, cap', hv, hgb, hglt⟩ := hown.form (by decide)
      have hr := rd_of_own (g := g) (cap := cap) (by have h2 := hown; injection hv with e1 e2 e3; rw [e1] at h2; exact h2) hglt
      have hA : A = some ⟨g, 0, none⟩ := by injection hv
      subst hA
      have hPR : PR.length = 64 := by decide
      have HE := Lib.hid (And.intro hr (And.intro B0 hPR)); clear hr B0 hown hv hpf
      go_wp2_with fail
      go_ret
      exact ⟨g, cap, by rw [← HE.out.2.2]; rfl, HE.out.1, HE.out.2.1⟩
end Go.Proofs.YtediocpdpghbfaaDoor
namespace Go.Proofs.YtediocpdpghbfaaDoor
open Go Go.RowKit

/-- the tables while they are being written -/
def ttP (i : Nat) : List Nat := TT.take i ++ List.replicate (72 - i) 0
theorem ttP_length (i : Nat) (h : i ≤ 72) : (ttP i).length = 72 := by simp [ttP, TT_length]; omega
theorem ttP_full : ttP 72 = TT := by rw [ttP, List.take_of_length_le (by rw [TT_length]; omega)]; simp
theorem ttP_set (i : Nat) (h : i < 72) : (ttP i).set i (TT.getD i 0) = ttP (i + 1) := by
  obtain ⟨j, hj⟩ : ∃ j, 72 - i = j + 1 := ⟨71 - i, by omega⟩
  have hl : i < TT.length := by rw [TT_length]; exact h
  rw [ttP, ttP, hj, show 72 - (i + 1) = j by omega, List.set_append_right _ _ (by simp [TT_length]; omega), List.replicate_succ, List.take_succ_eq_append_getElem hl]
  have e : i - (TT.take i).length = 0 := by simp [TT_length]; omega
  have hb : TT[i] = TT.getD i 0 := by simp [List.getD_eq_getElem?_getD, List.getElem?_eq_getElem hl]
  rw [e, hb]
  generalize TT.getD i 0 = x
  simp
theorem TT_h (i : Nat) (h : i < 8) : TT.getD (64 + i) 0 = HH.getD i 0 := by
  simp only [TT, List.getD_eq_getElem?_getD]
  rw [List.getElem?_append_right (by simp [KK])]
  congr 2; simp [KK]
theorem PR_length : PR.length = 64 := by decide
theorem PR_lt (i : Nat) (h : i < 64) : PR.getD i 0 < 1000 := (roots3 ⟨i, h⟩).2.2.2
theorem R3_lt : ∀ i : Fin 64, R3.getD i.val 0 < 18446744073709551616 := by decide
theorem R2_lt : ∀ i : Fin 8, R2.getD i.val 0 < 18446744073709551616 := by decide
theorem size32 (l : List Nat) (h : l.length = 72) : (Tryd.prog.info? 32).map (·.size) = some (u32s l).size := by
  rw [u32s_size, h]; kernel_rfl

set_option maxRecDepth 100000 in
theorem make_any (w : World) : Calls Tryd.prog 22 #[] w fun e w' => e = .returned (.agg (u32s TT)) ∧ Below w.heap.size w w' := by
  go_enter Tryd.func22, Tryd.ntmps22
  go_wp2_with fail
  obtain ⟨W2, hW2⟩ : ∃ W2, W2 = (w.alloc (.cells (u32s (ttP 0)) 32)).alloc (.cells (u32s (ttP 0)) 32) := ⟨_, rfl⟩
  change Calls _ _ _ ((w.alloc (.cells (u32s (ttP 0)) 32)).alloc (.cells (u32s (ttP 0)) 32)) _
  rw [← hW2]
  have hs1 : w.heap.size + 1 < W2.heap.size := by rw [hW2]; simp
  have F1 : Blk W2 w.heap.size 32 (u32s (ttP 0)) := by rw [hW2]; exact (Blk.new _ _ _).alloc _
  have F2 : Blk W2 (w.heap.size + 1) 32 (u32s (ttP 0)) := by rw [hW2]; exact Blk.new1 _ _ _ _
  have F3 : Below w.heap.size w W2 := by rw [hW2]; exact ((Below.refl _ _).alloc (Nat.le_refl _) _).alloc (by simp) _
  clear hW2
  refine (primes_any W2).mono ?_; rintro e w3 ⟨gp, cap, rfl, R, B⟩
  have G1 := F1.below B (by omega)
  have G2 := F2.below B (by omega)
  have G3 := F3.trans (B.mono (by omega))
  have hs3 := B.size
  have HA := Lib.hid (And.intro R (And.intro G1 (And.intro G2 G3))); clear F1 F2 F3 R B G1 G2 G3
  go_wp2_with fail
  go_loopg [3] 64 (fun f iv wr => ∃ i : Nat, iv = .int .i64 i ∧ i + f = 64 ∧ RD wr gp PR ∧ gp ≠ w.heap.size + 1 ∧ Blk wr w.heap.size 32 (u32s (ttP 0)) ∧ Blk wr (w.heap.size + 1) 32 (u32s (ttP i)) ∧ Below w.heap.size w wr ∧ w.heap.size + 1 < wr.heap.size)
  case atStart =>
    obtain ⟨R, G1, G2, G3⟩ := HA.out
    refine ⟨0, rfl, rfl, R, ?_, G1, G2, G3, by omega⟩
    rintro rfl
    have h1 := R.2 0 (by decide)
    have h2 := G2.u32 (i := 0) (by decide)
    rw [h2] at h1
    injection h1 with h1; injection h1 with h1; cases h1
  case round =>
    obtain ⟨i, rfl, hif, R, hne, G1, G2, G3, hs⟩ := hrel
    by_cases hi : i < 64
    · have hc := R.2 i (by rw [PR_length]; exact hi)
      have hr := root3 i hi
      have hp := PR_lt i hi
      have hl3 := R3_lt ⟨i, hi⟩
      have hset := ttP_set i (by omega)
      rw [TT_k i hi] at hset
      simp only at hl3
      generalize PR.getD i 0 = p at *
      generalize R3.getD i 0 = r at *
      generalize KK.getD i 0 = kk at *
      have dx := G2.u32 (i := i) (by rw [ttP_length _ (by omega)]; omega)
      generalize (ttP i).getD i 0 = x at *
      have HB := Lib.hid (And.intro R (And.intro G1 (And.intro G2 (And.intro G3 (And.intro hif (And.intro hr (And.intro hset hne))))))); clear R G1 G2 G3 hif hr hset HA
      go_wp2_with fail
      refine (root_any p 3 r hp (.inr rfl) HB.out.2.2.2.2.2.1.1 hl3 wr).mono ?_
      rintro e w4 ⟨rfl, B4⟩
      have hs4 := B4.size
      have dx4 := (B4.cell (p := ⟨w.heap.size + 1, i, none⟩) hs).trans dx
      have fx4 := (B4.frozen (p := ⟨w.heap.size + 1, i, none⟩) hs).trans (HB.out.2.2.1.frozen i)
      rw [HB.out.2.2.2.2.2.1.2]
      have HC := Lib.hid B4; clear B4 dx
      go_wp2_with fail
      go_roundg (gk - 1)
      case measure => have := HB.out.2.2.2.2.1; omega
      case rel =>
        obtain ⟨R, G1, G2, G3, hif, hr, hset, hne⟩ := HB.out
        have B4 := HC.out
        have R4 := R.below B4 R.1
        refine ⟨i + 1, by go_num, by omega, ⟨by simpa [World.setCell] using R4.1, fun j hj => ?_⟩, hne, (G1.below B4 (by omega)).far (by simp) _, (G2.below B4 hs).set32 _ _ hset, (G3.trans (B4.mono (by omega))).setCell (by simp) _, by simp [World.setCell]; omega⟩
        exact (World.cell?_setCell_other _ _ _ _ (fun e => by injection e with e1; exact hne e1.symm)).trans (R4.2 j hj)
    · obtain rfl : i = 64 := by omega
      clear hi
      have HB := Lib.hid (And.intro R (And.intro G1 (And.intro G2 (And.intro G3 hne)))); clear R G1 G2 G3 HA hif
      go_wp2_with fail
      go_loopg [4] 8 (fun f iv wr => ∃ i : Nat, iv = .int .i64 i ∧ i + f = 8 ∧ RD wr gp PR ∧ Blk wr w.heap.size 32 (u32s (ttP 0)) ∧ Blk wr (w.heap.size + 1) 32 (u32s (ttP (64 + i))) ∧ Below w.heap.size w wr ∧ w.heap.size + 1 < wr.heap.size)
      case atStart => obtain ⟨R, G1, G2, G3, hne⟩ := HB.out; exact ⟨0, rfl, rfl, R, G1, G2, G3, hs⟩
      case round =>
        have hne := HB.out.2.2.2.2
        clear HB hs
        obtain ⟨i, rfl, hif, R, G1, G2, G3, hs⟩ := hrel
        by_cases hi : i < 8
        · have hc := R.2 i (by rw [PR_length]; omega)
          have hr := root2 i hi
          have hp := PR_lt i (by omega)
          have hl3 := R2_lt ⟨i, hi⟩
          have hset := ttP_set (64 + i) (by omega)
          rw [TT_h i hi] at hset
          simp only at hl3
          generalize PR.getD i 0 = p at *
          generalize R2.getD i 0 = r at *
          generalize HH.getD i 0 = kk at *
          have dx := G2.u32 (i := 64 + i) (by rw [ttP_length _ (by omega)]; omega)
          generalize (ttP (64 + i)).getD (64 + i) 0 = x at *
          have HB := Lib.hid (And.intro R (And.intro G1 (And.intro G2 (And.intro G3 (And.intro hif (And.intro hr (And.intro hset hne))))))); clear R G1 G2 G3 hif hr hset
          go_wp2_with fail
          refine (root_any p 2 r hp (.inl rfl) HB.out.2.2.2.2.2.1.1 hl3 wr).mono ?_
          rintro e w4 ⟨rfl, B4⟩
          have hs4 := B4.size
          have dx4 := (B4.cell (p := ⟨w.heap.size + 1, 64 + i, none⟩) hs).trans dx
          have fx4 := (B4.frozen (p := ⟨w.heap.size + 1, 64 + i, none⟩) hs).trans (HB.out.2.2.1.frozen (64 + i))
          rw [HB.out.2.2.2.2.2.1.2]
          have HC := Lib.hid B4; clear B4 dx
          go_wp2_with fail
          go_roundg (gk - 1)
          case measure => have := HB.out.2.2.2.2.1; omega
          case rel =>
            obtain ⟨R, G1, G2, G3, hif, hr, hset, hne⟩ := HB.out
            have B4 := HC.out
            have R4 := R.below B4 R.1
            refine ⟨i + 1, by go_num, by omega, ⟨by simpa [World.setCell] using R4.1, fun j hj => ?_⟩, (G1.below B4 (by omega)).far (by simp) _, (G2.below B4 hs).set32 _ _ hset, (G3.trans (B4.mono (by omega))).setCell (by simp) _, by simp [World.setCell]; omega⟩
            exact (World.cell?_setCell_other _ _ _ _ (fun e => by injection e with e1; exact hne e1.symm)).trans (R4.2 j hj)
        · obtain rfl : i = 8 := by omega
          rw [show 64 + 8 = 72 from rfl, ttP_full] at G2
          have hl := TT_length
          have HB := Lib.hid (And.intro G1 (And.intro G2 (And.intro G3 hl))); clear R G1 G2 G3 hif hl hi hne
          go_wp2_with (first
            | (refine wpList_load_row rfl 32 (.tmp 1) rfl (w.heap.size + 1) rfl 32 (u32s TT) (0, 0) _ HB.out.2.1 Tryd.underlying32 rfl (size32 _ HB.out.2.2.2) ?_)
            | (refine wpList_store_row rfl 32 (.tmp 0) (.tmp 30) rfl w.heap.size (u32s TT) rfl rfl 32 (u32s (ttP 0)) HB.out.1 (size32 _ HB.out.2.2.2) (by rw [u32s_size, u32s_size, HB.out.2.2.2]; exact ttP_length 0 (by omega)) (u32s_one _) ?_))
          obtain ⟨G1, G2, G3, hl⟩ := HB.out
          exact bodyPost_ret (v := .agg (u32s TT)) (results_cell_row rfl _ _ w.heap.size 32 _ (0, 0) _ rfl (G1.setRow _) Tryd.underlying32 rfl (size32 _ hl)) rfl ⟨rfl, below_setRow' G3 (Nat.le_refl _) _⟩
end Go.Proofs.YtediocpdpghbfaaDoor
namespace Go.Proofs.YtediocpdpghbfaaDoor
open Go Go.RowKit

/-- the slice at address A, of capacity c, holds the bytes b -/
def RW (w : World) (A : Option Addr) (c : Nat) (b : List Nat) : Prop :=
  (A = none → c = 0 ∧ b = []) ∧ ∀ ad, A = some ad → b ≠ [] → ad.spot = none ∧ ad.block < w.heap.size ∧ ∀ j, j < b.length → w.cell? ⟨ad.block, ad.off + j, none⟩ = some (.int .u8 (b.getD j 0 : Nat))
/-- a slice value of the call's own that holds the bytes l -/
def OB (w : World) (base : Nat) (A : Option Addr) (n cap : Nat) (l : List Nat) : Prop := l.length = n ∧ w.ownsRow base 5 1 (.slice A n cap) n (bvals l)

theorem OB.rw {w : World} {base : Nat} {A : Option Addr} {n cap : Nat} {l : List Nat} (h : OB w base A n cap l) : RW w A cap l := by
  obtain ⟨hl, h⟩ := h
  refine ⟨fun hA => ?_, fun ad hA _ => ?_⟩
  · subst hA
    rcases h.2 with ⟨hv, hx⟩ | ⟨g, cap', cur, hv, _⟩
    · injection hv with _ e2 e3
      exact ⟨e3, List.eq_nil_of_length_eq_zero (by omega)⟩
    · cases hv
  · subst hA
    rcases h.2 with ⟨hv, hx⟩ | ⟨g, cap', cur, hv, hb, hg, _⟩
    · cases hv
    · injection hv with e1 e2 e3
      injection e1 with e1
      subst e1
      refine ⟨rfl, ?_, fun j hj => ?_⟩
      · exact (Array.getElem?_eq_some_iff.1 hg).1
      · have := h.cells (g := g) rfl j (.int .u8 (l.getD j 0 : Nat)) (by simp [bvals, List.getElem?_eq_getElem hj, List.getD_eq_getElem?_getD])
        rwa [addr_add] at this
theorem OB.alloc {w : World} {base : Nat} {A : Option Addr} {n cap : Nat} {l : List Nat} (h : OB w base A n cap l) (o : Obj) : OB (w.alloc o) base A n cap l := ⟨h.1, h.2.alloc o⟩
theorem RW.below {w w' : World} {A : Option Addr} {c : Nat} {b : List Nat} (h : RW w A c b) (hb : Below w.heap.size w w') : RW w' A c b :=
  ⟨h.1, fun ad hA hn => ⟨(h.2 ad hA hn).1, Nat.lt_of_lt_of_le (h.2 ad hA hn).2.1 hb.size, fun j hj => (hb.cell (p := ⟨ad.block, ad.off + j, none⟩) (h.2 ad hA hn).2.1).trans ((h.2 ad hA hn).2.2 j hj)⟩⟩
theorem RW.rb {w : World} {A : Option Addr} {c : Nat} {b : List Nat} (h : RW w A c b) {g : Nat} (hg : w.heap.size ≤ g) : RB w g A b := by
  intro hn
  cases A with
  | none => exact absurd (by rw [(h.1 rfl).2]; rfl) hn
  | some ad =>
    obtain ⟨h1, h2, h3⟩ := h.2 ad rfl (fun e => hn (by rw [e]; rfl))
    exact ⟨ad.block, ad.off, by cases ad; simp_all, by omega, h2, h3⟩

theorem OB.below {w w' : World} {base : Nat} {A : Option Addr} {n cap : Nat} {l : List Nat} (h : OB w base A n cap l) (hb : Below w.heap.size w w') : OB w' base A n cap l :=
  ⟨h.1, h.2.kept (row := none) ⟨hb.os, hb.tape, hb.output, hb.size, fun k hk _ => hb.block k hk⟩ (by cases (Value.slice A n cap).ownBlock <;> simp)⟩
theorem OB.drew {w : World} {base : Nat} {A : Option Addr} {n cap : Nat} {l : List Nat} (h : OB w base A n cap l) : OB w.drew base A n cap l := ⟨h.1, h.2⟩
theorem ob_empty (w : World) {base : Nat} (hb : base ≤ w.heap.size) : OB (w.alloc (.cells #[] 5)) base (some ⟨w.heap.size, 0, none⟩) 0 0 [] :=
  ⟨rfl, World.ownsRow_made w #[] 0 hb (by decide) rfl⟩
theorem ob_empty2 (w : World) (o1 o2 : Obj) : OB (((w.alloc o1).alloc o2).alloc (.cells #[] 5)) (w.heap.size + 1 + 1) (some ⟨w.heap.size + 1 + 1, 0, none⟩) 0 0 [] := by
  have h := ob_empty ((w.alloc o1).alloc o2) (base := w.heap.size + 1 + 1) (by simp)
  rw [size1, size1] at h
  exact h
theorem RW.alloc {w : World} {A : Option Addr} {c : Nat} {b : List Nat} (h : RW w A c b) (o : Obj) : RW (w.alloc o) A c b := h.below ((Below.refl _ _).alloc (Nat.le_refl _) _)
/-- append(out, xs...) for bytes -/
theorem wpList_app8 {w : World} {ops : Array Oper} {rest : List Oper} {o : Oper} {a : Act} {Q : Exit → Act → World → Prop} (hgd : o.guard = none) (s x : Operand)
    (ho : o.op = .call { callee := .builtin .append, args := #[s, x], argTypes := #[22, 22] }) (base : Nat) (A : Option Addr) (n cap : Nat) (l : List Nat) (hs : a.eval s = .slice A n cap) (hown : OB w base A n cap l)
    (A2 : Option Addr) (m c2 : Nat) (l2 : List Nat) (hx : a.eval x = .slice A2 m c2) (hl2 : l2.length = m) (hr : RW w A2 c2 l2) (hlen : n + m ≤ 140737488355328) (hbase : base ≤ w.heap.size)
    (h : ∀ A' cap' w', OB w' base A' (n + m) cap' (l ++ l2) → Below base w w' → (A' = none → A = none ∧ m = 0) → wpList Tryd.prog ops Q rest (a.put o.dst (.slice A' (n + m) cap')) w') : wpList Tryd.prog ops Q (o :: rest) a w := by
  obtain ⟨i0, hi0, hz0, hz1, hz2⟩ := info_parts info5
  cases A2 with
  | none =>
    obtain ⟨rfl, rfl⟩ := hr.1 rfl
    obtain rfl : m = 0 := by simpa using hl2.symm
    refine wpList_append_own_none hgd s x 22 ho base 5 i0 1 Tryd.underlying22 hi0 (.slice A n cap) n (bvals l) hs hown.2 hx ?_
    have := h A cap w (by simpa using hown) (Below.refl _ _) (fun e => ⟨e, rfl⟩)
    simpa using this
  | some ad =>
    refine wpList_append_own _ hgd s x 22 ho base 5 i0 (.int .u8 0) 1 1 Tryd.underlying22 hi0 hz0 hz1 hz2 rfl (by decide) (.slice A n cap) n (bvals l) hs hown.2 ad m c2 (bvals l2) hx (by rw [bvals_length, hl2]; omega) ?_ ?_
      (by unfold maxLen; omega) (by omega) hbase ?_
    · intro j u hj
      have hjl : j < l2.length := by have := (List.getElem?_eq_some_iff.1 hj).1; simpa [bvals] using this
      obtain ⟨h1, h2, h3⟩ := hr.2 ad rfl (fun e => by rw [e] at hjl; simp at hjl)
      obtain ⟨ab, ao, asp⟩ := ad
      simp only at h1 h2 h3
      subst h1
      rw [addr_add, h3 j hjl, ← hj]
      simp [bvals, List.getElem?_eq_getElem hjl, List.getD_eq_getElem?_getD]
    · intro u hu; simp only [bvals, List.mem_map] at hu; obtain ⟨x, _, rfl⟩ := hu; rfl
    · intro v' w' hown' hg hnil
      obtain ⟨A', cap', rfl⟩ : ∃ A' cap', v' = .slice A' (n + m) cap' := by
        rcases hown'.2 with ⟨rfl, hx⟩ | ⟨g, cap, cur, rfl, _⟩
        · exact ⟨none, 0, by rw [hx]⟩
        · exact ⟨_, cap, rfl⟩
      refine h A' cap' w' ⟨by rw [List.length_append, hown.1, hl2], by rw [bvals_append]; exact hown'⟩ ((Below.refl _ _).grown hg hbase (fun k hk => (hown.2.lt k hk).1)) (fun hA => ?_)
      subst hA
      rcases hown'.2 with ⟨hv, _⟩ | ⟨g, cap, cur, hv, _⟩
      · have := hnil.1 hv
        injection this.1 with e1
        exact ⟨e1, this.2⟩
      · cases hv
theorem one_rw (w : World) (x : Nat) : RW (w.alloc (.cells #[.int .u8 (x : Int)] 5)) (some ⟨w.heap.size, 0, none⟩) 1 [x] := by
  refine ⟨fun h => (Option.some_ne_none _ h).elim, fun ad h _ => ?_⟩
  injection h with h
  subst h
  refine ⟨rfl, by simp, fun j hj => ?_⟩
  obtain rfl : j = 0 := by simpa using hj
  exact (Blk.new w 5 #[Value.int .u8 (x : Int)]).cell (0 + 0)
theorem ob_one (w : World) (x : Nat) : OB (w.alloc (.cells #[.int .u8 (x : Int)] 5)) w.heap.size (some ⟨w.heap.size, 0, none⟩) 1 1 [x] :=
  ⟨rfl, by
    have := Blk.new w 5 #[Value.int .u8 (x : Int)]
    exact ⟨rfl, .inr ⟨w.heap.size, 1, _, rfl, Nat.le_refl _, this, Nat.le_refl _, by decide, rfl, rfl⟩⟩⟩

set_option maxRecDepth 100000 in
theorem rpad_any (n : Nat) (hn : n ≤ 72057594037927936) (w : World) :
    Calls Tryd.prog 30 #[.int .i64 n] w fun e w' => ∃ A cap, e = .returned (.slice A (padL n).length cap) ∧ OB w' w.heap.size A (padL n).length cap (padL n) ∧ Below w.heap.size w w' := by
  have hps := padSize_pos n
  obtain ⟨sz, hsz⟩ : ∃ sz, padSize n = sz := ⟨_, rfl⟩
  rw [hsz] at hps
  have hdef : sz = 64 - (n + 8) % 64 := by rw [← hsz]; rfl
  have HS := Lib.hid (And.intro hsz hdef); clear hsz hdef
  go_enter Tryd.func30, Tryd.ntmps30
  go_wp2_with fail
  go_loopg [3] (sz - 1) (fun f v wr => ∃ (q : Nat) (A : Option Addr) (cap : Nat), q + f = sz ∧ 1 ≤ q ∧ v = .slice A q cap ∧ OB wr w.heap.size A q cap (128 :: List.replicate (q - 1) 0) ∧ Below w.heap.size w wr)
  case atStart => exact ⟨1, _, 1, by omega, Nat.le_refl _, rfl, ob_one w 128, (Below.refl _ _).alloc (Nat.le_refl _) _⟩
  case round =>
    obtain ⟨q, A, cap, hqf, hq1, rfl, O, B0⟩ := hrel
    by_cases hq : q < sz
    · have t : (((n : Int) + q + 8) % 64 != 0) = true := by rw [bne_iff_ne]; have := HS.out.2; omega
      have HE := Lib.hid (And.intro hqf (And.intro O B0)); clear hqf O B0
      go_wp2_with (at_builtin; refine wpList_app8 rfl (.tmp 14) (.tmp 15) rfl w.heap.size A q cap (128 :: List.replicate (q - 1) 0) rfl (HE.out.2.1.alloc _) (some ⟨wr.heap.size, 0, none⟩) 1 1 [0] rfl rfl (one_rw wr 0) (by omega) (by have := HE.out.2.2.size; simp; omega) ?_; intro A' cap' w1 O1 B1 _; have H1 := Lib.hid (And.intro O1 B1); clear O1 B1)
      go_roundg (gk - 1)
      case measure => have := HE.out.1; omega
      case rel =>
        obtain ⟨hqf, O, B0⟩ := HE.out
        obtain ⟨O1, B1⟩ := H1.out
        refine ⟨q + 1, A', cap', by omega, by omega, rfl, ?_, (B0.alloc B0.size _).trans B1⟩
        have e : 128 :: List.replicate (q - 1) 0 ++ [0] = 128 :: List.replicate (q + 1 - 1) 0 := by
          obtain ⟨k, rfl⟩ : ∃ k, q = k + 1 := ⟨q - 1, by omega⟩
          simp [List.replicate_succ']
        rw [← e]; exact O1
    · obtain rfl : q = sz := by omega
      have t : (((n : Int) + q + 8) % 64 != 0) = false := by rw [bne_eq_false_iff_eq]; have := HS.out.2; omega
      obtain ⟨x, hx⟩ : ∃ x, n * 8 = x := ⟨_, rfl⟩
      have hxI : (n : Int) * 8 = (x : Int) := by omega
      have hx64 : x < 18446744073709551616 := by omega
      have HE := Lib.hid (And.intro O (And.intro B0 hx)); clear hqf O B0 hq hx
      go_wp2_with fail
      go_loopg [3, 5] 8 (fun f v iv wr => ∃ (t : Nat) (A : Option Addr) (cap : Nat), t + f = 8 ∧ iv = .int .i64 (7 - (t : Int)) ∧ v = .slice A (q + t) cap ∧ OB wr w.heap.size A (q + t) cap (128 :: (List.replicate (q - 1) 0 ++ (be8 x).take t)) ∧ Below w.heap.size w wr)
      case atStart => obtain ⟨O, B0, hx⟩ := HE.out; exact ⟨0, A, cap, rfl, rfl, rfl, by simpa using O, B0⟩
      case round =>
        have hxx := HE.out.2.2
        clear HE
        obtain ⟨t, A, cap, htf, rfl, rfl, O, B0⟩ := hrel
        by_cases ht : t < 8
        · have hb : (be8 x)[t]'(by rw [be8_length]; exact ht) = x / 2 ^ (56 - 8 * t) % 256 := by simp [be8]
          have htk : (be8 x).take (t + 1) = (be8 x).take t ++ [x / 2 ^ (56 - 8 * t) % 256] := by rw [List.take_succ_eq_append_getElem (by rw [be8_length]; exact ht), hb]
          have e1 : 8 * (7 - (t : Int)) = ((56 - 8 * t : Nat) : Int) := by omega
          obtain ⟨sh, hsh⟩ : ∃ sh, 56 - 8 * t = sh := ⟨_, rfl⟩
          have hsh63 : sh ≤ 56 := by omega
          rw [hsh] at e1 htk
          have ev : (x : Int) / 2 ^ sh % 256 = ((x / 2 ^ sh % 256 : Nat) : Int) := by rw [Int.natCast_emod, Int.natCast_ediv, Int.natCast_pow]; rfl
          generalize x / 2 ^ sh % 256 = y at *
          have HE := Lib.hid (And.intro htf (And.intro O (And.intro B0 (And.intro htk hxx)))); clear htf O B0 htk hxx hb hsh
          go_wp2_with (at_builtin; refine wpList_app8 rfl (.tmp 24) (.tmp 30) rfl w.heap.size A (q + t) cap (128 :: (List.replicate (q - 1) 0 ++ (be8 x).take t)) rfl (HE.out.2.1.alloc _) (some ⟨wr.heap.size, 0, none⟩) 1 1 [y] rfl rfl (one_rw wr y) (by omega) (by have := HE.out.2.2.1.size; simp; omega) ?_; intro A' cap' w1 O1 B1 _; have H1 := Lib.hid (And.intro O1 B1); clear O1 B1)
          go_roundg (gk - 1)
          case measure => have := HE.out.1; omega
          case rel =>
            obtain ⟨htf, O, B0, htk, hxx⟩ := HE.out
            obtain ⟨O1, B1⟩ := H1.out
            refine ⟨t + 1, A', cap', by omega, by congr 1; omega, rfl, ?_, (B0.alloc B0.size _).trans B1⟩
            rw [htk]
            have e : 128 :: (List.replicate (q - 1) 0 ++ ((be8 x).take t ++ [y])) = (128 :: (List.replicate (q - 1) 0 ++ (be8 x).take t)) ++ [y] := by simp
            rw [e]; exact O1
        · obtain rfl : t = 8 := by omega
          rw [List.take_of_length_le (by rw [be8_length]; omega)] at O
          have HE := Lib.hid (And.intro O (And.intro B0 hxx)); clear htf O B0 hxx ht
          go_wp2_with fail
          go_ret
          obtain ⟨O, B0, hxx⟩ := HE.out
          have hp : 128 :: (List.replicate (q - 1) 0 ++ be8 x) = padL n := by rw [padL, HS.out.1, hxx, Nat.mod_eq_of_lt hx64]
          rw [hp] at O
          have hl : (padL n).length = q + 8 := by rw [padL_length, HS.out.1]
          rw [hl]
          exact ⟨A, cap, rfl, O, B0⟩

attribute [local go_sem ↓] ld30 ld32 ld24 st30 st24
theorem size24 (l : List Nat) (h : l.length = 32) : (Tryd.prog.info? 24).map (·.size) = some (u8s l).size := by
  rw [u8s_size, h]; kernel_rfl
theorem TT_state {w : World} {g : Nat} (h : Blk w g 32 (u32s TT)) : (loadAgg 30 (.pointer (some ⟨g, 64, none⟩))).run Tryd.prog w = .ok (.agg (u32s HH)) w := by
  have := loadAgg_run (P := Tryd.prog) (w := w) (ty := 30) (g := g) (off := 64) (u32s HH).toList Tryd.underlying30 rfl (by kernel_rfl) (fun j v hv => by
    have hj : j < 8 := by have := (List.getElem?_eq_some_iff.1 hv).1; simpa [u32s_size, HH] using this
    rw [h.cell, ← hv]
    have : ∀ j : Fin 8, (u32s TT)[64 + j.val]? = (u32s HH).toList[j.val]? := by
      intro j; rw [u32s_at _ _ (by rw [TT_length]; omega), TT_h j.val j.isLt]
      have := u32s_at HH j.val (by rw [show HH.length = 8 from rfl]; exact j.isLt)
      simpa using this.symm
    exact this ⟨j, hj⟩)
  simpa using this
theorem slice_sub (gl ol k cap lo : Nat) (h : lo + 64 ≤ k) (hc : k ≤ cap) (w : World) :
    (Instr.slice 22 (.slice (some ⟨gl, ol, none⟩) k cap) (some (.int .i64 (lo : Int))) (some (.int .i64 ((lo : Int) + 64))) none).run Tryd.prog w = .ok (.slice (some ⟨gl, ol + lo, none⟩) 64 (cap - lo)) w := by
  have hs : (Tryd.prog.info? 5).map (·.size) = some 1 := by kernel_rfl
  have he : Tryd.prog.elem 22 = 5 := by kernel_rfl
  rw [run_slice_lh w 22 _ k cap (by rw [he]; exact Tryd.underlying22) .i64 .i64 lo (lo + 64) (by omega) (by omega) (by omega)]
  cases hq : Tryd.prog.info? 5 with
  | none => simp [hq] at hs
  | some i =>
    have hi : i.size = 1 := by simpa [hq] using hs
    simp [he, sizeOf, typeInfo, hq, hi, sliced, addr_add]
    refine ⟨fun e => by omega, by omega⟩
theorem sliceAt_sub (gl ol k cap lo : Nat) (h : lo + 64 ≤ k) (hc : k ≤ cap) (w : World) :
    (Instr.sliceAt 22 (.slice (some ⟨gl, ol, none⟩) k cap) (some (.int .i64 (lo : Int))) (some (.int .i64 ((lo : Int) + 64))) none).run Tryd.prog w = .ok (.slice (some ⟨gl, ol + lo, none⟩) 64 (cap - lo)) w := by
  have he : Tryd.prog.elem 22 = 5 := by kernel_rfl
  rw [run_sliceAt_slice w 22 _ _ _ _ (by rw [he]; exact Tryd.underlying22)]
  exact slice_sub gl ol k cap lo h hc w
theorem store30_run {w : World} {S : Nat} {st st' : List Nat} (h : Blk w S 30 (u32s st)) (hl : st.length = 8) (hl' : st'.length = 8) :
    (storeAgg 30 (.pointer (some ⟨S, 0, none⟩)) (.agg (u32s st'))).run Tryd.prog w = .ok () (w.setRow S (u32s st')) := by
  have := storeAgg_run (P := Tryd.prog) (ty := 30) (off := 0) (cur := (u32s st).toList) (u32s st') (by rw [Array.toArray_toList]; exact h) (size30l st' hl') (by rw [u32s_size, hl', Array.length_toList, u32s_size, hl]; omega) (u32s_one _)
  rw [this, List.drop_eq_nil_of_le (by rw [Array.length_toList, u32s_size, u32s_size, hl, hl']; omega), List.take_zero, List.nil_append, List.append_nil, Array.toArray_toList]
theorem load30_run {w : World} {S : Nat} {st : List Nat} (h : Blk w S 30 (u32s st)) (hl : st.length = 8) :
    (loadAgg 30 (.pointer (some ⟨S, 0, none⟩))).run Tryd.prog w = .ok (.agg (u32s st)) w := by
  have := loadAgg_run (P := Tryd.prog) (w := w) (ty := 30) (g := S) (off := 0) (u32s st).toList Tryd.underlying30 rfl (by rw [Array.length_toList]; exact size30l st hl) (fun j v hv => by
    rw [Nat.zero_add, h.cell]; simpa using hv)
  simpa using this
theorem load32_run {w : World} {S : Nat} (h : Blk w S 32 (u32s TT)) : (loadAgg 32 (.pointer (some ⟨S, 0, none⟩))).run Tryd.prog w = .ok (.agg (u32s TT)) w := by
  have := loadAgg_run (P := Tryd.prog) (w := w) (ty := 32) (g := S) (off := 0) (u32s TT).toList Tryd.underlying32 rfl (by rw [Array.length_toList]; exact size32 _ TT_length) (fun j v hv => by
    rw [Nat.zero_add, h.cell]; simpa using hv)
  simpa using this
set_option maxRecDepth 100000 in
/-- the reference's Sum -/
theorem rsum_any (w : World) (b : List Nat) (A : Option Addr) (cap : Nat) (hcap : b.length ≤ cap) (hB : Bytes b) (hr : RW w A cap b) (hlen : b.length ≤ 1000000) :
    Calls Tryd.prog 21 #[.agg (u32s TT), .slice A b.length cap] w fun e w' => e = .returned (.agg (u8s (sha b))) ∧ Below w.heap.size w w' := by
  obtain ⟨n, hn⟩ : ∃ n, b.length = n := ⟨_, rfl⟩
  rw [hn] at hlen hcap ⊢
  have H0 := Lib.hid (And.intro hB (And.intro hr hn)); clear hB hr hn
  obtain ⟨zs, hzs⟩ : ∃ zs, u8s (zer 32) = zs := ⟨_, rfl⟩
  have HZ := Lib.hid hzs; clear hzs
  go_enter Tryd.func21, Tryd.ntmps21
  go_wp2_with (at_builtin; refine wpList_app8 rfl (.tmp 10) (.tmp 11) rfl (w.heap.size + 1 + 1) (some ⟨w.heap.size + 1 + 1, 0, none⟩) 0 0 [] rfl (ob_empty2 _ _ _) A n cap b rfl H0.out.2.2 (((H0.out.2.1.alloc _).alloc _).alloc _) (by omega) (by simp) ?_; intro A1 cap1 w1 O1 B1 _; have H1 := Lib.hid (And.intro O1 (And.intro ((Blk.below (((Blk.new w 32 (u32s TT)).alloc _).alloc _) B1 (by omega))) (And.intro (Blk.below ((Blk.new1 _ _ _ _).alloc _) B1 (by omega)) (Below.trans ((((Below.refl _ _).alloc (Nat.le_refl _) _).alloc (by simp) _).alloc (by simp; omega) _) (B1.mono (by omega)))))); clear O1 B1)
  have O1' := H1.out.1
  rw [Nat.zero_add, List.nil_append] at O1'
  have HO := Lib.hid O1'; clear O1'
  refine (rpad_any n (by omega) w1).mono ?_
  rintro e w2 ⟨A2, cap2, rfl, O2, B2⟩
  have hsz : w.heap.size + 1 < w1.heap.size := H1.out.2.2.1.lt
  have hpl : (padL n).length ≤ 72 := by have := padSize_pos n; rw [padL_length]; omega
  have H2 := Lib.hid (And.intro O2 B2); clear O2 B2
  go_wp2_with (first
    | (at_builtin; refine wpList_app8 rfl (.tmp 12) (.tmp 15) rfl (w.heap.size + 1 + 1) A1 n cap1 b rfl (HO.out.below H2.out.2) A2 (padL n).length cap2 (padL n) rfl rfl H2.out.1.rw (by omega) (Nat.le_trans hsz H2.out.2.size) ?_; intro A3 cap3 w3 O3 B3 hnil3; have HT3 := TT_state ((H1.out.2.1.below H2.out.2 (by omega)).below B3 (by omega)); have H3 := Lib.hid (And.intro O3 (And.intro B3 hnil3)); clear O3 B3 hnil3)
    | (refine wpList_store_row rfl 30 (.tmp 6) (.tmp 18) rfl w3.heap.size (u32s HH) rfl rfl 30 (u32s (List.replicate 8 0)) (Blk.new _ _ _) (size30l _ rfl) rfl (u32s_one _) ?_))
  obtain ⟨O3, B3, hnil3⟩ := H3.out
  have hN : n + (padL n).length = (padded b).length := by rw [padded, List.length_append, H0.out.2.2]
  have hK : (padded b).length % 64 = 0 := by rw [← hN]; exact padL_mod n
  have hLB : Bytes (padded b) := by rw [padded]; exact H0.out.1.append (Bytes.padL _)
  have hsha : sha b = digest (states HH (padded b) ((padded b).length / 64)) := rfl
  have hLp : b ++ padL n = padded b := by rw [padded, H0.out.2.2]
  rw [hLp, hN] at O3
  have hN9 : 1 ≤ (padded b).length := by rw [← hN, padL_length]; omega
  have hNM : (padded b).length ≤ 1000072 := by omega
  rw [hN]
  have hcap3 : (padded b).length ≤ cap3 := by
    rcases O3.2.2 with ⟨hv, hx⟩ | ⟨g, cap', cur, hv, _, _, h, _⟩
    · omega
    · injection hv with _ _ e3; omega
  have F1 := (H1.out.2.1.below H2.out.2 (by omega)).below B3 (by omega)
  have F2 := (H1.out.2.2.1.below H2.out.2 (by omega)).below B3 (by omega)
  have F3 := H1.out.2.2.2.trans ((H2.out.2.mono (by omega)).trans (B3.mono (by omega)))
  have F4 := O3.rw
  have F5 : w.heap.size + 1 < w3.heap.size := F2.lt
  generalize padded b = L at *
  obtain ⟨K, hKK⟩ : ∃ K, L.length = 64 * K := ⟨L.length / 64, by omega⟩
  have hsha' : sha b = digest (states HH L K) := by rw [hsha, hKK, show 64 * K / 64 = K by omega]
  clear hsha
  rw [hKK] at hcap3 hN9 hNM
  rw [hKK]
  have hLne : L ≠ [] := by intro e; rw [e] at hKK; simp at hKK; omega
  have hA3 : ∃ gl ol, A3 = some ⟨gl, ol, none⟩ := by
    cases A3 with
    | none => have := (F4.1 rfl).2; rw [this] at hKK; simp at hKK; omega
    | some ad => obtain ⟨gl, ol, sp⟩ := ad; have := (F4.2 _ rfl hLne).1; simp only at this; subst this; exact ⟨gl, ol, rfl⟩
  obtain ⟨gl, ol, rfl⟩ := hA3
  obtain ⟨_, hgl, hcl⟩ := F4.2 _ rfl hLne
  clear hLne
  simp only at hgl hcl
  clear hN hK hLp F4 O3 B3 hnil3 HT3 H3 HO H2 H1 H0 hpl HZ
  generalize hS : w3.heap.size = S at *
  have HA := Lib.hid (And.intro F1 (And.intro F2 (And.intro F3 (And.intro hcl (And.intro hsha' (And.intro hLB (And.intro hKK hS))))))); clear F1 F2 F3 hcl hsha' hLB hKK hS
  go_loopg [7] K (fun f iv wr => ∃ q : Nat, q + f = K ∧ iv = .int .i64 (64 * q : Nat) ∧ Blk wr w.heap.size 32 (u32s TT) ∧ Blk wr (w.heap.size + 1) 24 (u8s (List.replicate 32 0)) ∧ Blk wr S 30 (u32s (states HH L q)) ∧
    (∀ j, j < L.length → wr.cell? ⟨gl, ol + j, none⟩ = some (.int .u8 (L.getD j 0 : Nat))) ∧ gl < wr.heap.size ∧ Below w.heap.size w wr)
  case atStart =>
    obtain ⟨F1, F2, F3, hcl, hsha, hLB, hKK, hS⟩ := HA.out
    subst hS
    refine ⟨0, by omega, rfl, (F1.alloc _).farRow (by omega) _, (F2.alloc _).farRow (by omega) _, (Blk.new _ _ _).setRow _, fun j hj => ?_, by simp; omega, below_setRow' (F3.alloc (by omega) _) (by omega) _⟩
    exact (World.cell?_of_block (setRow_other _ _ _ _ (by simp; omega))).trans ((World.cell?_alloc_lt _ _ _ hgl).trans (hcl j hj))
  case round =>
    obtain ⟨q, hqf, rfl, E1, E2, E3, hc, hg, B0⟩ := hrel
    have hKK := HA.out.2.2.2.2.2.2.1
    have hLB := HA.out.2.2.2.2.2.1
    have hSB : w.heap.size + 1 < S := F5
    by_cases hq : q < K
    · have l1 := load32_run E1.drew
      have l2 := load30_run E3.drew (states_length rfl L q)
      obtain ⟨lo, hlo⟩ : ∃ lo, 64 * q = lo := ⟨_, rfl⟩
      have hsl := fun W => slice_sub gl ol (64 * K) cap3 lo (by omega) hcap3 W
      have hbk : ∀ j, j < 64 → wr.drew.cell? ⟨gl, ol + lo + j, none⟩ = some (.int .u8 ((blk L q).getD j 0 : Nat)) := fun j hj => by
        have := hc (lo + j) (by omega)
        rw [← Nat.add_assoc] at this
        refine this.trans ?_
        congr 3
        rw [blk, hlo]; simp [List.getD_eq_getElem?_getD, List.getElem?_take, hj]
      have hbl : (blk L q).length = 64 := by rw [blk, List.length_take, List.length_drop]; omega
      have hstep : states HH L (q + 1) = compress KK (states HH L q) (blk L q) := rfl
      have hsw := states_words words_HH L q
      have hsl8 : (states HH L q).length = 8 := states_length rfl L q
      have hbB := hLB.blk q
      have hlo2 : lo ≤ 1000072 := by omega
      rw [hlo]
      generalize states HH L q = st at *
      generalize blk L q = bk at *
      have HB := Lib.hid (And.intro E1 (And.intro E2 (And.intro E3 (And.intro hc (And.intro B0 (And.intro hbk (And.intro hbl (And.intro hstep (And.intro hsw (And.intro hsl8 (And.intro hbB (And.intro hlo hqf)))))))))))); clear E1 E2 E3 hc B0 hbk hbl hstep hsw hsl8 hbB hlo hqf hKK hLB
      have hne : ¬ cap3 = lo := by have := HB.out.2.2.2.2.2.2.2.2.2.2.2.1; omega
      have hsl' := fun W => sliceAt_sub gl ol (64 * K) cap3 lo (by have := HB.out.2.2.2.2.2.2.2.2.2.2.2.1; omega) hcap3 W
      have b0 : 0 ≤ (lo : Int) := by omega
      have b1 : (lo : Int) ≤ (lo : Int) + 64 := by omega
      have b2 : (lo : Int) + 64 ≤ (cap3 : Int) := by have := HB.out.2.2.2.2.2.2.2.2.2.2.2.1; omega
      have b3 : IntKind.i64.wrap ((lo : Int) + 64) = (lo : Int) + 64 := IntWalk.i64_in _ (by omega)
      have tq : decide ((lo : Int) < 64 * (K : Int)) = true := by simp; have := HB.out.2.2.2.2.2.2.2.2.2.2.2.1; omega
      go_wp2_with fail
      go_region_with (go_at_call 24; refine (refcomp_any st bk HB.out.2.2.2.2.2.2.2.2.2.1 HB.out.2.2.2.2.2.2.2.2.1 HB.out.2.2.2.2.2.2.1 HB.out.2.2.2.2.2.2.2.2.2.2.1 wr.drew gl (ol + lo) (cap3 - lo) HB.out.2.2.2.2.2.1).mono ?_; rintro e w4 ⟨rfl, B4⟩; have hst4 := store30_run (st' := compress KK st bk) (HB.out.2.2.1.drew.below B4 HB.out.2.2.1.drew.lt) HB.out.2.2.2.2.2.2.2.2.2.1 (compress_length _ _ _); have HB4 := Lib.hid B4; clear B4)
      all_goals
        go_wp2_with fail
        go_roundg (gk - 1)
        case measure => obtain ⟨_, _, _, _, _, _, _, _, _, _, _, _, hqf⟩ := HB.out; omega
        case rel =>
          obtain ⟨E1, E2, E3, hc, B0, hbk, hbl, hstep, hsw, hsl8, hbB, hlo, hqf⟩ := HB.out
          have B4 := HB4.out
          have sz4 : wr.heap.size ≤ w4.heap.size := B4.size
          have g1 := E1.lt
          have g2 := E2.lt
          have g3 := E3.lt
          refine ⟨q + 1, by omega, by congr 1; omega, (E1.drew.below B4 g1).farRow (by omega) _, (E2.drew.below B4 g2).farRow (by omega) _, ?_, fun j hj => ?_, by simp; omega, below_setRow' ((B0.drew).trans (B4.mono (by have := B0.size; simpa using this))) (by omega) _⟩
          · rw [hstep]; exact (E3.drew.below B4 g3).setRow _
          · exact (World.cell?_of_block (setRow_other _ _ _ _ (by simp; omega))).trans ((B4.cell (p := ⟨gl, ol + j, none⟩) hg).trans (hc j hj))
    · obtain rfl : q = K := by omega
      have hsha := HA.out.2.2.2.2.1
      have hl8 : (states HH L q).length = 8 := states_length rfl L q
      have hsw := states_words words_HH L q
      generalize states HH L q = st at *
      have HB := Lib.hid (And.intro E2 (And.intro E3 (And.intro B0 (And.intro hsha hl8)))); clear E1 E2 E3 B0 hsha hl8 hc hqf hKK hLB HA
      have tq : decide (((64 * q : Nat) : Int) < ((64 * q : Nat) : Int)) = false := by simp
      go_wp2_with fail
      have sB : w.heap.size + 1 < wr.heap.size := HB.out.1.lt
      have sS : S < wr.heap.size := HB.out.2.1.lt
      generalize hD : wr.heap.size = D at *
      have HD := Lib.hid hD; clear hD
      go_loopg [9] 32 (fun f iv wi => ∃ i : Nat, i + f = 32 ∧ iv = .int .i64 i ∧ Blk wi (w.heap.size + 1) 24 (u8s (List.replicate 32 0)) ∧ Blk wi S 30 (u32s st) ∧ Blk wi D 24 (u8s (digP st i)) ∧ Below w.heap.size w wi)
      case atStart =>
        obtain ⟨E2, E3, B0, hsha, hl8⟩ := HB.out
        obtain rfl := HD.out
        exact ⟨0, rfl, rfl, E2.alloc _, E3.alloc _, Blk.new _ _ _, B0.alloc (by omega) _⟩
      case round =>
        have hsha := HB.out.2.2.2.1
        have hl8 := HB.out.2.2.2.2
        clear HB HD
        obtain ⟨i, hif, rfl, E2, E3, E4, B0⟩ := hrel
        by_cases hi : i < 32
        · obtain ⟨q4, hq4⟩ : ∃ q4, i / 4 = q4 := ⟨_, rfl⟩
          obtain ⟨r4, hr4⟩ : ∃ r4, i % 4 = r4 := ⟨_, rfl⟩
          have hq8 : q4 < 8 := by omega
          have hr8 : r4 < 4 := by omega
          have c1 := E3.u32 (i := q4) (by omega)
          have c4 := E4.u8 (i := i) (by rw [digP_length _ _ (by omega)]; omega)
          have f4 := E4.frozen i
          have lx := hsw q4
          have hset := digP_set st q4 r4 hq8 hr8
          rw [show 4 * q4 + r4 = i by omega] at hset
          have eq4 : (i : Int) / 4 = (q4 : Int) := by omega
          have er4 : (i : Int) % 4 = (r4 : Int) := by omega
          have b1 : 0 ≤ 24 - 8 * (r4 : Int) := by omega
          generalize st.getD q4 0 = x at *
          generalize (digP st i).getD i 0 = y at *
          have HE := Lib.hid (And.intro E2 (And.intro E3 (And.intro E4 (And.intro B0 (And.intro hif (And.intro hset (And.intro hsha hl8))))))); clear E2 E3 E4 B0 hif hset hsha hl8 hq4 hr4
          go_wp2_with fail
          go_roundg (gk - 1)
          case measure => have := HE.out.2.2.2.2.1; omega
          case rel =>
            obtain ⟨E2, E3, E4, B0, hif, hset, hsha, hl8⟩ := HE.out
            refine ⟨i + 1, by omega, by go_num, E2.far (by simp; omega) _, E3.far (by simp; omega) _, ?_, B0.setCell (by simp; omega) _⟩
            have ez : (x : Int) / 2 ^ (24 - 8 * r4) % 256 = ((x / 2 ^ (24 - 8 * r4) % 256 : Nat) : Int) := by
              rw [Int.natCast_emod, Int.natCast_ediv, Int.natCast_pow]; rfl
            rw [ez]
            exact E4.set8 _ _ hset
        · obtain rfl : i = 32 := by omega
          rw [digP_full] at E4
          have hl32 := digest_length st
          have HE := Lib.hid (And.intro E2 (And.intro E4 (And.intro B0 (And.intro hsha hl32)))); clear E2 E3 E4 B0 hif hsha hl8 hl32 hi
          go_wp2_with (first
            | (refine wpList_load_row rfl 24 (.tmp 8) rfl D rfl 24 (u8s (digest st)) (0, 0) _ HE.out.2.1 Tryd.underlying24 rfl (size24 _ HE.out.2.2.2.2) ?_)
            | (refine wpList_store_row rfl 24 (.tmp 4) (.tmp 49) rfl (w.heap.size + 1) (u8s (digest st)) rfl rfl 24 (u8s (List.replicate 32 0)) HE.out.1 (size24 _ HE.out.2.2.2.2) (by rw [u8s_size, u8s_size, HE.out.2.2.2.2]; rfl) (u8s_one _) ?_))
          obtain ⟨E2, E4, B0, hsha, hl32⟩ := HE.out
          refine bodyPost_ret (v := .agg (u8s (digest st))) (results_cell_row rfl _ _ (w.heap.size + 1) 24 _ (0, 0) _ rfl (E2.setRow _) Tryd.underlying24 rfl (size24 _ hl32)) rfl ⟨?_, below_setRow' B0 (by omega) _⟩
          rw [hsha]
end Go.Proofs.YtediocpdpghbfaaDoor
namespace Go.Proofs.YtediocpdpghbfaaDoor
open Go Go.RowKit

theorem run_part5 (w : World) (l : List Nat) (i : Nat) (hi : i < l.length) : (Go.part 5 (u8s l) (i * 1)).run Tryd.prog w = .ok (.int .u8 (l.getD i 0 : Nat)) w := by
  have h1 := u8s_at l i hi
  have hs : (Tryd.prog.info? 5).map (·.size) = some 1 := by kernel_rfl
  cases hq : Tryd.prog.info? 5 with
  | none => simp [hq] at hs
  | some j =>
    have hj : j.size = 1 := by simpa [hq] using hs
    simp [Go.part, isAgg, sizeOf, typeInfo, hq, hj, run_underlying Tryd.underlying5, h1]
theorem run_sizeOf5 (w : World) : (sizeOf 5).run Tryd.prog w = .ok 1 w := by
  have hs : (Tryd.prog.info? 5).map (·.size) = some 1 := by kernel_rfl
  cases hq : Tryd.prog.info? 5 with
  | none => simp [hq] at hs
  | some j =>
    have hj : j.size = 1 := by simpa [hq] using hs
    simp [sizeOf, typeInfo, hq, hj]
theorem run_equalIn_u8s (w : World) (a b : List Nat) (ha : a.length = 32) (hb : b.length = 32) :
    (Op.equalIn (9998 + 1 + 1) 25 (.agg (u8s a)) (.agg (u8s b))).run Tryd.prog w = .ok (decide (a = b)) w := by
  have hin : ∀ (w : World) (x y : Int), (Op.equalIn (9998 + 1) 5 (.int .u8 x) (.int .u8 y)).run Tryd.prog w = .ok (x == y) w := fun w x y => run_equalIn_int w 9998 5 .u8 .u8 x y Tryd.underlying5
  revert hin
  generalize 9998 + 1 = d
  intro hin
  rw [Op.equalIn]
  simp only [Sem.run_bind, run_underlying Tryd.underlying25, Result.andThen_ok, run_sizeOf5]
  rw [Std.Legacy.Range.forIn_eq_forIn_range']
  have key : ∀ (ls : List Nat), (∀ i ∈ ls, i < 32) → ∀ w : World, ((forIn (m := Sem) ls ((none, ()) : Option Bool × Unit) fun i r => do
      let x ← Go.part 5 (u8s a) (i * 1)
      let y ← Go.part 5 (u8s b) (i * 1)
      let e ← Op.equalIn d 5 x y
      if (!e) = true then pure (ForInStep.done (some false, ())) else pure (ForInStep.yield (none, ()))).run Tryd.prog w) = .ok (if ls.all (fun i => a.getD i 0 == b.getD i 0) then (none, ()) else (some false, ())) w := by
    intro ls
    induction ls with
    | nil => intro _ w; simp
    | cons i ls ih =>
      intro hi w
      have hi0 := hi i (by simp)
      have ihh := ih (fun j hj => hi j (by simp [hj])) w
      simp only [List.forIn_cons, Sem.run_bind, run_part5 w a i (by omega), run_part5 w b i (by omega), Result.andThen_ok, hin]
      by_cases he : a.getD i 0 = b.getD i 0
      · simp only [he, List.all_cons, beq_self_eq_true, Bool.not_true, Bool.false_eq_true, if_false, Sem.run_pure, Result.andThen_ok, Bool.true_and]
        exact ihh
      · have hne : ((a.getD i 0 : Nat) : Int) ≠ ((b.getD i 0 : Nat) : Int) := by omega
        have h1 : (((a.getD i 0 : Nat) : Int) == ((b.getD i 0 : Nat) : Int)) = false := beq_eq_false_iff_ne.2 hne
        have h2 : (a.getD i 0 == b.getD i 0) = false := by simpa using he
        simp only [h1, List.all_cons, h2, Bool.not_false, if_true, Sem.run_pure, Result.andThen_ok, Bool.false_and, Bool.false_eq_true, if_false]
  have hk := key (List.range' 0 32 1) (by intro i hi; simp at hi; omega) w
  have hz : ([:32] : Std.Legacy.Range).size = 32 := by rfl
  simp only [hz]
  rw [hk]
  simp only [Result.andThen_ok]
  have hiff : (List.range' 0 32 1).all (fun i => a.getD i 0 == b.getD i 0) = decide (a = b) := by
    rw [Bool.eq_iff_iff]
    simp only [List.all_eq_true, decide_eq_true_eq, List.mem_range'_1, beq_iff_eq]
    constructor
    · intro h
      refine List.ext_getElem (by omega) fun i h1 h2 => ?_
      have := h i (by omega)
      simpa [List.getD_eq_getElem?_getD, List.getElem?_eq_getElem h1, List.getElem?_eq_getElem h2] using this
    · rintro rfl i _; rfl
  rw [hiff]
  by_cases he : a = b <;> simp [he]
theorem run_equalIn_dig (w : World) (a b : List Nat) (ha : a.length = 32) (hb : b.length = 32) :
    (Op.equalIn 10000 25 (.agg (u8s a)) (.agg (u8s b))).run Tryd.prog w = .ok (decide (a = b)) w := run_equalIn_u8s w a b ha hb
theorem run_eql_dig (w : World) (a b : List Nat) (ha : a.length = 32) (hb : b.length = 32) :
    (binOp .eql 25 (.agg (u8s a)) (.agg (u8s b))).run Tryd.prog w = .ok (.bool (decide (a = b))) w := by
  rw [run_eql_struct]
  rw [show (10000 : Nat) = 9998 + 1 + 1 from rfl, run_equalIn_u8s w a b ha hb]
  rfl

theorem convert_rw (w : World) (A : Option Addr) (cap : Nat) (l : List Nat) (n : Nat) (hn : l.length = n) (hb : Bytes l) (hr : RW w A cap l) :
    (convert 22 9 (.slice A n cap)).run Tryd.prog w = .ok (.string (strOf l)) w := by
  cases A with
  | none =>
    obtain ⟨rfl, rfl⟩ := hr.1 rfl
    exact run_convert_bytes_nil (P := Tryd.prog) w 22 5 Tryd.underlying22 Tryd.underlying5 n 0 9 Tryd.underlying9
  | some ad =>
    have := run_convert_bytes_back (P := Tryd.prog) w 22 9 5 ad cap (l.map UInt8.ofNat) Tryd.underlying22 Tryd.underlying5 Tryd.underlying9 (fun j hj => by
      simp only [List.length_map] at hj
      have h256 := hb.mem _ (List.getElem_mem hj)
      obtain ⟨h1, h2, h3⟩ := hr.2 ad rfl (fun e => by rw [e] at hj; simp at hj)
      obtain ⟨ab, ao, asp⟩ := ad
      simp only at h1 h2 h3
      subst h1
      rw [addr_add, h3 j hj]
      simp [List.getD_eq_getElem?_getD, List.getElem?_eq_getElem hj]
      omega)
    rw [List.length_map, hn] at this
    exact this
end Go.Proofs.YtediocpdpghbfaaDoor
