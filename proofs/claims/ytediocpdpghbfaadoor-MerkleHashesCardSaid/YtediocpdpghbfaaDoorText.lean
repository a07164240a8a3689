/- String, nibble, Parse -/
import Derived.Test.YtediocpdpghbfaaDoorSumm
import Derived.Deep.AppendLies
import Derived.Laws.IdiomStrings
import Derived.OwnWalk
set_option linter.unusedSimpArgs false
set_option linter.unusedVariables false
namespace Go.Proofs.YtediocpdpghbfaaDoor
open Go Go.RowKit

/-- a string of bytes given as numbers -/
def strOf (l : List Nat) : ByteArray := ⟨(l.map UInt8.ofNat).toArray⟩
/-- a hexadecimal digit -/
def hexd (n : Nat) : Nat := if n < 10 then 48 + n else 87 + n
def hexL (d : List Nat) : List Nat := d.flatMap fun b => [hexd (b / 16), hexd (b % 16)]
def digitsBA : ByteArray := ⟨#[48, 49, 50, 51, 52, 53, 54, 55, 56, 57, 97, 98, 99, 100, 101, 102]⟩
theorem digit_tab : ∀ n : Fin 16, (digitsBA[n.val]?) = some (UInt8.ofNat (hexd n.val)) := by decide
theorem hexd_lt : ∀ n : Fin 16, hexd n.val < 256 := by decide
theorem digit_at (n : Nat) (h : n < 16) (w : World) : (Instr.index 9 (.string digitsBA) (.int .u8 (n : Int))).run Tryd.prog w = .ok (.int .u8 (hexd n : Nat)) w := by
  have h1 := digit_tab ⟨n, h⟩
  have h2 := hexd_lt ⟨n, h⟩
  simp only at h1 h2
  rw [run_index_string w 9 digitsBA .u8 n Tryd.underlying9]
  have h3 : (n : Int) < (digitsBA.size : Nat) := by have : digitsBA.size = 16 := rfl; omega
  have h4 : n < digitsBA.size := by omega
  rw [dif_pos ⟨by omega, h3⟩]
  have h5 : digitsBA[((n : Int)).toNat]'(by omega) = UInt8.ofNat (hexd n) := by
    have := ByteArray.getElem?_lt' digitsBA n h4
    rw [h1] at this
    simpa using (Option.some.inj this).symm
  rw [h5]
  congr 2
  simp; omega
theorem bits_and15 : ∀ b : Fin 256, bits .and .u8 (b.val : Int) 15 = ((b.val % 16 : Nat) : Int) := by decide +kernel
theorem hexL_length (d : List Nat) : (hexL d).length = 2 * d.length := by
  induction d with
  | nil => rfl
  | cons a d ih => simp only [hexL, List.flatMap_cons, List.length_append, List.length_cons, List.length_nil] at *; omega
theorem hexL_snoc (d : List Nat) (b : Nat) : hexL (d ++ [b]) = hexL d ++ [hexd (b / 16), hexd (b % 16)] := by simp [hexL]
theorem hexL_bytes (d : List Nat) (hd : Bytes d) : Bytes (hexL d) := by
  refine Bytes.of_mem fun x hx => ?_
  simp only [hexL, List.mem_flatMap, List.mem_cons, List.not_mem_nil, or_false] at hx
  obtain ⟨b, hb, h⟩ := hx
  have := hd.mem b hb
  rcases h with rfl | rfl
  · exact hexd_lt ⟨b / 16, by omega⟩
  · exact hexd_lt ⟨b % 16, by omega⟩
theorem run_index_byte25 (l : List Nat) (hl : l.length = 32) (i : Nat) (hi : i < 32) (w : World) :
    (Instr.index 25 (.agg (u8s l)) (.int .i64 (i : Int))).run Tryd.prog w = .ok (.int .u8 (l.getD i 0 : Nat)) w := by
  have h1 := u8s_at l i (by omega)
  have hs : (Tryd.prog.info? 5).map (·.size) = some 1 := by kernel_rfl
  cases hq : Tryd.prog.info? 5 with
  | none => simp [hq] at hs
  | some j =>
    have hj : j.size = 1 := by simpa [hq] using hs
    simp [Instr.index, asIntOf, run_underlying Tryd.underlying25, run_underlying Tryd.underlying5, Go.part, isAgg, sizeOf, typeInfo, hq, hj, h1, hi]
def bvals (l : List Nat) : List Value := l.map fun x : Nat => Value.int .u8 (x : Int)
theorem bvals_length (l : List Nat) : (bvals l).length = l.length := by simp [bvals]
theorem bvals_append (l r : List Nat) : bvals (l ++ r) = bvals l ++ bvals r := by simp [bvals]
theorem convert_own (w : World) (g n cap : Nat) (l : List Nat) (hn : l.length = n) (hb : Bytes l) (hc : ∀ j u, (bvals l)[j]? = some u → w.cell? ((⟨g, 0, none⟩ : Addr).add j) = some u) :
    (convert 22 9 (.slice (some ⟨g, 0, none⟩) n cap)).run Tryd.prog w = .ok (.string (strOf l)) w := by
  have := run_convert_bytes_back (P := Tryd.prog) w 22 9 5 ⟨g, 0, none⟩ cap (l.map UInt8.ofNat) Tryd.underlying22 Tryd.underlying5 Tryd.underlying9 (fun j hj => by
    simp only [List.length_map] at hj
    have h256 := hb.mem _ (List.getElem_mem hj)
    refine hc j _ ?_
    simp [bvals, List.getElem?_eq_getElem hj]
    omega)
  rw [List.length_map, hn] at this
  exact this

theorem pair_cells (wr : World) (y1 y2 : Nat) : ∀ j u, [Value.int .u8 (y1 : Int), Value.int .u8 (y2 : Int)][j]? = some u →
    (wr.drew.alloc (.cells #[Value.int .u8 (y1 : Int), Value.int .u8 (y2 : Int)] 5)).cell? ((⟨wr.heap.size, 0, none⟩ : Addr).add j) = some u := by
  intro j u hj
  have := (Blk.new wr.drew 5 #[Value.int .u8 (y1 : Int), Value.int .u8 (y2 : Int)]).cell (0 + j)
  rw [addr_add]
  refine this.trans ?_
  rw [Nat.zero_add]; simpa using hj
def zer (n : Nat) : List Nat := List.replicate n 0
attribute [local go_sem ↓] ld25
set_option maxRecDepth 100000 in
theorem string_any (w : World) (d : List Nat) (hd : d.length = 32) (hB : Bytes d) :
    Calls Tryd.prog 32 #[.agg (u8s d)] w fun e w' => e = .returned (.string (strOf (hexL d))) ∧ Below w.heap.size w w' := by
  obtain ⟨i0, hi0, hz0, hz1, hz2⟩ := info_parts info5
  have hmk : ∀ w, (Instr.makeSlice 22 (.int .i64 0) (.int .i64 64)).run Tryd.prog w = .ok (.slice (some ⟨w.heap.size, 0, none⟩) 0 64) (w.alloc (.cells (u8s (zer 64)) 5)) := fun w => by
    have := run_make_rowN (P := Tryd.prog) 22 5 i0 _ Tryd.underlying22 hi0 hz0 .i64 .i64 0 64 (by omega) (by rw [hz2]; omega) (by omega) w
    rwa [hz1, Nat.mul_one, madeCells_u8] at this
  have hld : (loadAgg 25 (.pointer (some ⟨w.heap.size, 0, none⟩))).run Tryd.prog ((w.alloc (.cells (u8s d) 25)).alloc (.cells (u8s (zer 64)) 5)) = .ok (.agg (u8s d)) ((w.alloc (.cells (u8s d) 25)).alloc (.cells (u8s (zer 64)) 5)) := by
    have := loadAgg_run (P := Tryd.prog) (w := (w.alloc (.cells (u8s d) 25)).alloc (.cells (u8s (zer 64)) 5)) (ty := 25) (g := w.heap.size) (off := 0) (u8s d).toList Tryd.underlying25 rfl (by rw [Array.length_toList]; exact size25 d hd) (fun j v hv => by
      rw [Nat.zero_add, ((Blk.new w 25 (u8s d)).alloc _).cell]; simpa using hv)
    simpa using this
  have HI := Lib.hid (And.intro hi0 (And.intro hz0 (And.intro hz1 hz2))); clear hi0 hz0 hz1 hz2
  go_enter Tryd.func32, Tryd.ntmps32
  go_wp2_with fail
  go_loopg [3, 8] 32 (fun k v i wr => ∃ t : Nat, t + k = 32 ∧ i = .int .i64 t ∧ wr.ownsRow w.heap.size 5 1 v (2 * t) (bvals (hexL (d.take t))) ∧ Below w.heap.size w wr)
  case atStart =>
    refine ⟨0, rfl, rfl, ?_, ((Below.refl _ _).alloc (Nat.le_refl _) _).alloc (by simp) _⟩
    have := World.ownsRow_made (base := w.heap.size) (e := 5) (size := 1) (w.alloc (.cells (u8s d) 25)) (u8s (zer 64)) 64 (by simp) (by decide) (by rw [u8s_size]; rfl)
    rwa [size1] at this
  case round =>
    obtain ⟨t, htk, rfl, hown, B0⟩ := hrel
    have HTK := Lib.hid htk; clear htk
    by_cases ht : t < 32
    · have hix := run_index_byte25 d hd t ht
      have hb := hB t
      have htake : d.take (t + 1) = d.take t ++ [d.getD t 0] := by
        rw [List.take_succ_eq_append_getElem (by omega)]; simp [List.getD_eq_getElem?_getD, List.getElem?_eq_getElem (show t < d.length by omega)]
      generalize d.getD t 0 = b at *
      have hnext : bvals (hexL (d.take (t + 1))) = bvals (hexL (d.take t)) ++ [.int .u8 (hexd (b / 16) : Nat), .int .u8 (hexd (b % 16) : Nat)] := by rw [htake, hexL_snoc, bvals_append]; rfl
      have ha := bits_and15 ⟨b, hb⟩
      have d1 : ∀ W, (Instr.index 9 (.string ⟨#[48, 49, 50, 51, 52, 53, 54, 55, 56, 57, 97, 98, 99, 100, 101, 102]⟩) (.int .u8 ((b : Int) / 16))).run Tryd.prog W = .ok (.int .u8 (hexd (b / 16) : Nat)) W := fun W => digit_at (b / 16) (by omega) W
      have d2 : ∀ W, (Instr.index 9 (.string ⟨#[48, 49, 50, 51, 52, 53, 54, 55, 56, 57, 97, 98, 99, 100, 101, 102]⟩) (.int .u8 ((b : Int) % 16))).run Tryd.prog W = .ok (.int .u8 (hexd (b % 16) : Nat)) W := fun W => digit_at (b % 16) (by omega) W
      simp only [Int.natCast_emod, Int.cast_ofNat_Int] at ha
      generalize hexd (b / 16) = y1 at *
      generalize hexd (b % 16) = y2 at *
      have HN := Lib.hid (And.intro hnext htake); clear hnext htake
      have HE := Lib.hid (And.intro hown B0); clear hown B0
      have hwn := pair_cells wr y1 y2
      have HW := Lib.hid hwn; clear hwn
      go_wp2_with fail
      go_region_law (refine step_append_lies _ rfl (.tmp 11) (.tmp 18) 22 rfl w.heap.size 5 i0 (.int .u8 0) 1 1 Tryd.underlying22 HI.out.1 HI.out.2.1 HI.out.2.2.1 HI.out.2.2.2 rfl (by decide) u3 (2 * t) (bvals (hexL (d.take t))) (by simp [Act.eval, Act.put]) (HE.out.1.drew.alloc _) ⟨wr.heap.size, 0, none⟩ 2 2 [.int .u8 (y1 : Int), .int .u8 (y2 : Int)] (by simp [Act.eval, Act.put]) rfl HW.out (by simp [Value.oneCell']) (by omega) (by simp only [maxLen]; omega) (by omega) (by have := HE.out.2.size; simp; omega) (wr.heap.size + 1) (by simp) ?_; intro g cap w2 hown2 hg2 hv2 hlt2; have HO := Lib.hid (And.intro hown2 (And.intro hg2 hv2)); clear hown2 hg2 hv2)
      all_goals
        go_wp2_with fail
        go_roundg (gk - 1)
        case measure => have := HTK.out; omega
        case rel =>
          obtain ⟨hown2, hg2, hv2⟩ := HO.out
          obtain ⟨hown, B0⟩ := HE.out
          refine ⟨t + 1, by have := HTK.out; omega, by go_num, ?_, ?_⟩
          · rw [HN.out.1]; exact hown2
          · exact ((B0.drew).alloc B0.size _).grown hg2 (by have := B0.size; simp; omega) (fun k hk => (hown.lt k hk).1)
    · obtain rfl : t = 32 := by have := HTK.out; omega
      clear ht
      rw [List.take_of_length_le (by omega)] at hown
      obtain ⟨g, cap, rfl, hgB, hglt⟩ := hown.form (by omega)
      have hcv := convert_own wr g (2 * 32) cap (hexL d) (by rw [hexL_length, hd]) (hexL_bytes d hB) (hown.cells rfl)
      have HE := Lib.hid B0; clear hown B0
      go_wp2_with fail
      go_ret
      exact ⟨rfl, HE.out⟩

/-! ### nibble -/
def nib (c : Nat) : Nat := if 48 ≤ c ∧ c ≤ 57 then c - 48 else if 97 ≤ c ∧ c ≤ 102 then c - 87 else 0
def isNib (c : Nat) : Bool := decide ((48 ≤ c ∧ c ≤ 57) ∨ (97 ≤ c ∧ c ≤ 102))
theorem nibble_any (c : Nat) (hc : c < 256) (w : World) :
    Calls Tryd.prog 71 #[.int .u8 c] w fun e w' => e = .returned (.tuple #[.int .u8 (nib c : Nat), .bool (isNib c)]) ∧ w = w' := by
  obtain ⟨n, hn⟩ : ∃ n, nib c = n := ⟨_, rfl⟩
  obtain ⟨b, hb⟩ : ∃ b, isNib c = b := ⟨_, rfl⟩
  rw [hn, hb]
  unfold nib at hn
  unfold isNib at hb
  by_cases h1 : 48 ≤ c
  · by_cases h2 : c ≤ 57
    · obtain rfl : n = c - 48 := by rw [if_pos ⟨h1, h2⟩] at hn; exact hn.symm
      obtain rfl : b = true := by rw [← hb]; simp; omega
      have e : ((c - 48 : Nat) : Int) = (c : Int) - 48 := by omega
      rw [e]
      clear hn hb e
      go_enter Tryd.func71, Tryd.ntmps71
      go_wp2_with fail
      go_ret2
      exact ⟨rfl, rfl⟩
    · have h2' : 57 < c := by omega
      have t2 : decide ((c : Int) ≤ 57) = false := by simp; omega
      by_cases h3 : 97 ≤ c
      · by_cases h4 : c ≤ 102
        · obtain rfl : n = c - 87 := by rw [if_neg (by omega), if_pos ⟨h3, h4⟩] at hn; exact hn.symm
          obtain rfl : b = true := by rw [← hb]; simp; omega
          have e : ((c - 87 : Nat) : Int) = (c : Int) - 97 + 10 := by omega
          rw [e]
          clear hn hb e
          go_enter Tryd.func71, Tryd.ntmps71
          go_wp2_with fail
          go_ret2
          exact ⟨rfl, rfl⟩
        · have t4 : decide ((c : Int) ≤ 102) = false := by simp; omega
          obtain rfl : n = 0 := by rw [if_neg (by omega), if_neg (by omega)] at hn; exact hn.symm
          obtain rfl : b = false := by rw [← hb]; simp; omega
          clear hn hb
          go_enter Tryd.func71, Tryd.ntmps71
          go_wp2_with fail
          go_ret2
          exact ⟨rfl, rfl⟩
      · have t3 : decide (97 ≤ (c : Int)) = false := by simp; omega
        obtain rfl : n = 0 := by rw [if_neg (by omega), if_neg (by omega)] at hn; exact hn.symm
        obtain rfl : b = false := by rw [← hb]; simp; omega
        clear hn hb
        go_enter Tryd.func71, Tryd.ntmps71
        go_wp2_with fail
        go_ret2
        exact ⟨rfl, rfl⟩
  · have t1 : decide (48 ≤ (c : Int)) = false := by simp; omega
    have t3 : decide (97 ≤ (c : Int)) = false := by simp; omega
    obtain rfl : n = 0 := by rw [if_neg (by omega), if_neg (by omega)] at hn; exact hn.symm
    obtain rfl : b = false := by rw [← hb]; simp; omega
    clear hn hb
    go_enter Tryd.func71, Tryd.ntmps71
    go_wp2_with fail
    go_ret2
    exact ⟨rfl, rfl⟩

/-! ### Parse -/
/-- the bytes of a string -/
def bl (s : ByteArray) : List Nat := s.data.toList.map UInt8.toNat
theorem bl_length (s : ByteArray) : (bl s).length = s.size := by rw [bl, List.length_map, Array.length_toList]; rfl
theorem bl_at (s : ByteArray) (i : Nat) (h : i < s.size) : (bl s).getD i 0 = (s[i]).toNat := by
  have h' : i < s.data.toList.length := by rw [Array.length_toList]; exact h
  simp [bl, List.getD_eq_getElem?_getD, List.getElem?_eq_getElem h']
  rfl
theorem bl_bytes (s : ByteArray) : Bytes (bl s) := Bytes.of_mem fun x hx => by
  simp only [bl, List.mem_map] at hx
  obtain ⟨c, _, rfl⟩ := hx
  exact c.toNat_lt
theorem str_index (s : ByteArray) (i : Nat) (h : i < s.size) (w : World) : (Instr.index 9 (.string s) (.int .i64 (i : Int))).run Tryd.prog w = .ok (.int .u8 ((bl s).getD i 0 : Nat)) w := by
  rw [run_index_string w 9 s .i64 i Tryd.underlying9, dif_pos ⟨by omega, by omega⟩, bl_at s i h]
  simp
def unhex (l : List Nat) : List Nat := (List.range 32).map fun i => nib (l.getD (2 * i) 0) * 16 + nib (l.getD (2 * i + 1) 0)
/-- what Parse returns: a digest and an error's number -/
def parseL (l : List Nat) : List Nat × Nat :=
  if l.length < 64 then (zer 32, 4) else if 64 < l.length then (zer 32, 5) else if (List.range 32).all (fun i => isNib (l.getD (2 * i) 0) && isNib (l.getD (2 * i + 1) 0)) then (unhex l, 0) else (zer 32, 3)
theorem results_cell_row2 {P : Program} {fn : Func} {p u : Tmp} {ty : TypeId} (h : fn.results = #[.cell p ty, .tmp u]) (tmps : Array Value) (w : World) (g : Nat) (t : TypeId) (cs : Array Value) (fr : Nat × Nat) (d : TypeDesc)
    (hp : tmps.getD p undef = .pointer (some ⟨g, 0, none⟩)) (hg : w.heap[g]? = some (.cells cs t fr))
    (hu : P.underlying ty = some d) (hd : (match d with | .struct _ | .array _ _ => true | _ => false) = true) (hi : (P.info? ty).map (·.size) = some cs.size) :
    (results fn tmps).run P w = .ok (.tuple #[.agg cs, tmps.getD u undef]) w := by
  have hp' : tmps[p]?.getD undef = .pointer (some ⟨g, 0, none⟩) := by simpa using hp
  simp [results, h, hp', asAddr, run_loadVar_row w g t ty cs fr d hg hu hd hi]

theorem nib_lt (c : Nat) : nib c < 16 := by unfold nib; split <;> (try split) <;> omega
theorem bits_nib : ∀ x y : Fin 16, bits .or .u8 ((x.val : Int) * 16) (y.val : Int) = ((x.val * 16 + y.val : Nat) : Int) := by decide +kernel
/-- the digest while Parse writes it -/
def unP (l : List Nat) (t : Nat) : List Nat := (unhex l).take t ++ List.replicate (32 - t) 0
theorem unhex_length (l : List Nat) : (unhex l).length = 32 := by simp [unhex]
theorem unP_length (l : List Nat) (t : Nat) (h : t ≤ 32) : (unP l t).length = 32 := by simp [unP, unhex_length]; omega
theorem unP_full (l : List Nat) : unP l 32 = unhex l := by rw [unP, List.take_of_length_le (by rw [unhex_length]; omega)]; simp
theorem unP_set (l : List Nat) (t : Nat) (h : t < 32) : (unP l t).set t (nib (l.getD (2 * t) 0) * 16 + nib (l.getD (2 * t + 1) 0)) = unP l (t + 1) := by
  have hb : (unhex l)[t]'(by rw [unhex_length]; exact h) = nib (l.getD (2 * t) 0) * 16 + nib (l.getD (2 * t + 1) 0) := by simp [unhex]
  obtain ⟨j, hj⟩ : ∃ j, 32 - t = j + 1 := ⟨31 - t, by omega⟩
  rw [unP, unP, hj, show 32 - (t + 1) = j by omega, List.set_append_right _ _ (by simp [unhex_length]; omega), List.replicate_succ,
    List.take_succ_eq_append_getElem (by rw [unhex_length]; exact h), hb]
  have e : t - ((unhex l).take t).length = 0 := by simp [unhex_length]; omega
  rw [e]
  simp
theorem built25 : (Tryd.prog.built 25 []).getD #[] = u8s (zer 32) := by kernel_rfl
theorem zer_length (n : Nat) : (zer n).length = n := by simp [zer]

attribute [local go_sem ↓] st25 ld25
set_option maxRecDepth 100000 in
theorem parse_any (s : ByteArray) (hs : s.size ≤ 9223372036854775807) (w : World) :
    Calls Tryd.prog 33 #[.string s] w fun e w' => e = .returned (.tuple #[.agg (u8s (parseL (bl s)).1), .int .i64 ((parseL (bl s)).2 : Nat)]) ∧ Below w.heap.size w w' := by
  have hbl := bl_length s
  by_cases h1 : s.size < 64
  · have hp : parseL (bl s) = (zer 32, 4) := by rw [parseL, if_pos (by omega)]
    rw [hp]
    have HP := Lib.hid (And.intro hp hbl); clear hp hbl
    go_enter Tryd.func33, Tryd.ntmps33
    go_wp2_with (first
      | (refine wpList_build rfl 25 _ rfl (by kernel_rfl) ?_)
      | (refine wpList_store_row rfl 25 (.tmp 2) (.tmp 14) rfl w.heap.size (u8s (zer 32)) rfl ?hy 25 (u8s (zer 32)) (Blk.new _ _ _) (size25 _ rfl) rfl (u8s_one _) ?_))
    case hy => first | exact built25 | exact congrArg Value.agg built25
    exact bodyPost_ret (v := .tuple #[.agg (u8s (zer 32)), .int .i64 4]) (results_cell_row2 (p := 2) (u := 3) rfl _ _ w.heap.size 25 _ (0, 0) _ rfl ((Blk.new _ _ _).setRow _) Tryd.underlying25 rfl (size25 _ rfl)) rfl
      ⟨rfl, below_setRow' ((Below.refl _ _).alloc (Nat.le_refl _) _) (Nat.le_refl _) _⟩
  · by_cases h2 : 64 < s.size
    · have hp : parseL (bl s) = (zer 32, 5) := by rw [parseL, if_neg (by omega), if_pos (by omega)]
      rw [hp]
      have HP := Lib.hid (And.intro hp hbl); clear hp hbl
      go_enter Tryd.func33, Tryd.ntmps33
      go_wp2_with (first
        | (refine wpList_build rfl 25 _ rfl (by kernel_rfl) ?_)
        | (refine wpList_store_row rfl 25 (.tmp 2) (.tmp 19) rfl w.heap.size (u8s (zer 32)) rfl ?hy 25 (u8s (zer 32)) (Blk.new _ _ _) (size25 _ rfl) rfl (u8s_one _) ?_))
      case hy => first | exact built25 | exact congrArg Value.agg built25
      exact bodyPost_ret (v := .tuple #[.agg (u8s (zer 32)), .int .i64 5]) (results_cell_row2 (p := 2) (u := 3) rfl _ _ w.heap.size 25 _ (0, 0) _ rfl ((Blk.new _ _ _).setRow _) Tryd.underlying25 rfl (size25 _ rfl)) rfl
        ⟨rfl, below_setRow' ((Below.refl _ _).alloc (Nat.le_refl _) _) (Nat.le_refl _) _⟩
    · have hsz : s.size = 64 := by omega
      have hp : parseL (bl s) = if (List.range 32).all (fun i => isNib ((bl s).getD (2 * i) 0) && isNib ((bl s).getD (2 * i + 1) 0)) then (unhex (bl s), 0) else (zer 32, 3) := by
        rw [parseL, if_neg (by omega), if_neg (by omega)]
      have HP := Lib.hid (And.intro hp (And.intro hbl hsz)); clear hp hbl hsz
      go_enter Tryd.func33, Tryd.ntmps33
      go_wp2_with fail
      go_loopg [20] 32 (fun k i wr => ∃ t : Nat, t + k = 32 ∧ i = .int .i64 t ∧ (∀ j, j < t → isNib ((bl s).getD (2 * j) 0) = true ∧ isNib ((bl s).getD (2 * j + 1) 0) = true) ∧
        Blk wr w.heap.size 25 (u8s (zer 32)) ∧ Blk wr (w.heap.size + 1) 25 (u8s (unP (bl s) t)) ∧ Below w.heap.size w wr)
      case atStart => exact ⟨0, rfl, rfl, fun j hj => by omega, (Blk.new _ _ _).alloc _, Blk.new1 _ _ _ _, ((Below.refl _ _).alloc (Nat.le_refl _) _).alloc (by simp) _⟩
      case round =>
        obtain ⟨t, htk, rfl, hall, K1, K2, B0⟩ := hrel
        have HTK := Lib.hid htk; clear htk
        by_cases ht : t < 32
        · have hsz := HP.out.2.2
          have x1 := str_index s (2 * t) (by omega)
          have x2 := str_index s (2 * t + 1) (by omega)
          have hset := unP_set (bl s) t ht
          have l1 := bl_bytes s (2 * t)
          have l2 := bl_bytes s (2 * t + 1)
          have c := K2.u8 (i := t) (by rw [unP_length _ _ (by omega)]; omega)
          have f := K2.frozen t
          simp only [Int.natCast_add, Int.natCast_mul, Int.cast_ofNat_Int] at x1 x2
          generalize hc1 : (bl s).getD (2 * t) 0 = c1 at *
          generalize hc2 : (bl s).getD (2 * t + 1) 0 = c2 at *
          generalize (unP (bl s) t).getD t 0 = y at *
          have bn := bits_nib ⟨nib c1, nib_lt c1⟩ ⟨nib c2, nib_lt c2⟩
          simp only at bn
          have n1 := nib_lt c1
          have n2 := nib_lt c2
          have HE := Lib.hid (And.intro hall (And.intro K1 (And.intro K2 (And.intro B0 (And.intro hset (And.intro hc1 (And.intro hc2 hsz))))))); clear hall K1 K2 B0 hset hc1 hc2 hsz
          generalize hN1 : nib c1 = m1 at *
          generalize hN2 : nib c2 = m2 at *
          have HM := Lib.hid (And.intro hN1 hN2)
          generalize hG1 : isNib c1 = g1 at *
          generalize hG2 : isNib c2 = g2 at *
          have HG := Lib.hid (And.intro hG1 hG2)
          have k1 : ∀ W : World, Calls Tryd.prog 71 #[.int .u8 c1] W fun e w' => e = .returned (.tuple #[.int .u8 m1, .bool g1]) ∧ W = w' := fun W => by rw [← hN1, ← hG1]; exact nibble_any c1 l1 W
          have k2 : ∀ W : World, Calls Tryd.prog 71 #[.int .u8 c2] W fun e w' => e = .returned (.tuple #[.int .u8 m2, .bool g2]) ∧ W = w' := fun W => by rw [← hN2, ← hG2]; exact nibble_any c2 l2 W
          have HK := Lib.hid (And.intro k1 k2)
          clear hN1 hN2 hG1 hG2 k1 k2
          go_wp2_with fail
          refine (HK.out.1 _).mono ?_; rintro e w' ⟨rfl, rfl⟩
          go_wp2_with fail
          refine (HK.out.2 _).mono ?_; rintro e w' ⟨rfl, rfl⟩
          cases g1
          · go_wp2_with (first
              | (refine wpList_build rfl 25 _ rfl (by kernel_rfl) ?_)
              | (refine wpList_store_row rfl 25 (.tmp 2) (.tmp 46) rfl w.heap.size (u8s (zer 32)) rfl ?hy 25 (u8s (zer 32)) HE.out.2.1 (size25 _ rfl) rfl (u8s_one _) ?_))
            case hy => first | exact built25 | exact congrArg Value.agg built25
            obtain ⟨hall, K1, K2, B0, hset, hc1, hc2, hsz⟩ := HE.out
            refine bodyPost_ret (v := .tuple #[.agg (u8s (zer 32)), .int .i64 3]) (results_cell_row2 (p := 2) (u := 3) rfl _ _ w.heap.size 25 _ (0, 0) _ rfl (K1.setRow _) Tryd.underlying25 rfl (size25 _ rfl)) rfl
              ⟨?_, below_setRow' B0 (Nat.le_refl _) _⟩
            have hno : ((List.range 32).all fun i => isNib ((bl s).getD (2 * i) 0) && isNib ((bl s).getD (2 * i + 1) 0)) = false := by
              rw [List.all_eq_false]
              refine ⟨t, List.mem_range.2 ht, ?_⟩
              rw [hc1, hc2, HG.out.1, HG.out.2]; simp
            rw [HP.out.1, hno]; rfl
          · cases g2
            · go_wp2_with (first
              | (refine wpList_build rfl 25 _ rfl (by kernel_rfl) ?_)
              | (refine wpList_store_row rfl 25 (.tmp 2) (.tmp 46) rfl w.heap.size (u8s (zer 32)) rfl ?hy 25 (u8s (zer 32)) HE.out.2.1 (size25 _ rfl) rfl (u8s_one _) ?_))
              case hy => first | exact built25 | exact congrArg Value.agg built25
              obtain ⟨hall, K1, K2, B0, hset, hc1, hc2, hsz⟩ := HE.out
              refine bodyPost_ret (v := .tuple #[.agg (u8s (zer 32)), .int .i64 3]) (results_cell_row2 (p := 2) (u := 3) rfl _ _ w.heap.size 25 _ (0, 0) _ rfl (K1.setRow _) Tryd.underlying25 rfl (size25 _ rfl)) rfl
                ⟨?_, below_setRow' B0 (Nat.le_refl _) _⟩
              have hno : ((List.range 32).all fun i => isNib ((bl s).getD (2 * i) 0) && isNib ((bl s).getD (2 * i + 1) 0)) = false := by
                rw [List.all_eq_false]
                refine ⟨t, List.mem_range.2 ht, ?_⟩
                rw [hc1, hc2, HG.out.1, HG.out.2]; simp
              rw [HP.out.1, hno]; rfl
            · go_wp2_with fail
              go_roundg (gk - 1)
              case measure => have := HTK.out; omega
              case rel =>
                obtain ⟨hall, K1, K2, B0, hset, hc1, hc2, hsz⟩ := HE.out
                refine ⟨t + 1, by have := HTK.out; omega, by go_num, fun j hj => ?_, K1.far (by simp) _, ?_, B0.setCell (by simp) _⟩
                · rcases Nat.lt_or_ge j t with h | h
                  · exact hall j h
                  · obtain rfl : j = t := by omega
                    rw [hc1, hc2, HG.out.1, HG.out.2]; exact ⟨rfl, rfl⟩
                · exact K2.set8 _ _ hset
        · obtain rfl : t = 32 := by have := HTK.out; omega
          clear ht
          rw [unP_full] at K2
          have hl32 := unhex_length (bl s)
          have HL := Lib.hid hl32; clear hl32
          have HE := Lib.hid (And.intro hall (And.intro K1 (And.intro K2 B0))); clear hall K1 K2 B0
          go_wp2_with (first
            | (refine wpList_load_row rfl 25 (.tmp 4) rfl (w.heap.size + 1) rfl 25 (u8s (unhex (bl s))) (0, 0) _ HE.out.2.2.1 Tryd.underlying25 rfl (size25 _ HL.out) ?_)
            | (refine wpList_store_row rfl 25 (.tmp 2) (.tmp 54) rfl w.heap.size (u8s (unhex (bl s))) rfl rfl 25 (u8s (zer 32)) HE.out.2.1 (size25 _ HL.out) (by rw [u8s_size, u8s_size, HL.out]; rfl) (u8s_one _) ?_))
          obtain ⟨hall, K1, K2, B0⟩ := HE.out
          refine bodyPost_ret (v := .tuple #[.agg (u8s (unhex (bl s))), .int .i64 0]) (results_cell_row2 (p := 2) (u := 3) rfl _ _ w.heap.size 25 _ (0, 0) _ rfl (K1.setRow _) Tryd.underlying25 rfl (size25 _ HL.out)) rfl
              ⟨?_, below_setRow' B0 (Nat.le_refl _) _⟩
          have hyes : ((List.range 32).all fun i => isNib ((bl s).getD (2 * i) 0) && isNib ((bl s).getD (2 * i + 1) 0)) = true := by
            rw [List.all_eq_true]
            intro j hj
            have := hall j (List.mem_range.1 hj)
            rw [this.1, this.2]; rfl
          rw [HP.out.1, hyes]; rfl
end Go.Proofs.YtediocpdpghbfaaDoor
