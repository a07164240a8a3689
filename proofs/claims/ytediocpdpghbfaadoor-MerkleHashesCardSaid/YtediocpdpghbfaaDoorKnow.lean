/- known: the examples of the chapter hold. -/
import Derived.Test.YtediocpdpghbfaaDoorText
import Derived.Lib.SlBytesConst
set_option linter.unusedSimpArgs false
set_option linter.unusedVariables false
namespace Go.Proofs.YtediocpdpghbfaaDoor
open Go Go.RowKit

theorem nil_text : ((strOf (hexL (sha []))).toList == [101, 51, 98, 48, 99, 52, 52, 50, 57, 56, 102, 99, 49, 99, 49, 52, 57, 97, 102, 98, 102, 52, 99, 56, 57, 57, 54, 102, 98, 57, 50, 52, 50, 55, 97, 101, 52, 49, 101, 52, 54, 52, 57, 98, 57, 51, 52, 99, 97, 52, 57, 53, 57, 57, 49, 98, 55, 56, 53, 50, 98, 56, 53, 53]) = true := by rw [sha_nil]; decide +kernel
theorem abc_text : ((strOf (hexL (sha [97, 98, 99]))).toList == [98, 97, 55, 56, 49, 54, 98, 102, 56, 102, 48, 49, 99, 102, 101, 97, 52, 49, 52, 49, 52, 48, 100, 101, 53, 100, 97, 101, 50, 50, 50, 51, 98, 48, 48, 51, 54, 49, 97, 51, 57, 54, 49, 55, 55, 97, 57, 99, 98, 52, 49, 48, 102, 102, 54, 49, 102, 50, 48, 48, 49, 53, 97, 100]) = true := by rw [sha_abc]; decide +kernel
theorem RB.nil (w : World) (g : Nat) (A : Option Addr) : RB w g A [] := fun h => absurd rfl h
theorem bytes_abc : Bytes [97, 98, 99] := Bytes.of_mem (by decide)

set_option maxRecDepth 100000 in
theorem known_any (w : World) (hT : Tabs w) : Calls Tryd.prog 19 #[] w fun e w' => e = .returned (.bool true) ∧ Below w.heap.size w w' := by
  have hw2 := hT.two
  have HT := Lib.hid hT; clear hT
  go_enter Tryd.func19, Tryd.ntmps19
  go_wp2_with fail
  refine (sum_any w HT.out [] none 0 (Nat.le_refl _) Bytes.nil (RB.nil _ _ _) (by simp)).mono ?_
  rintro e w1 ⟨rfl, B1⟩
  have H1 := Lib.hid B1; clear B1
  go_wp2_with fail
  refine (string_any w1 (sha []) (sha_length _) (Bytes.sha _)).mono ?_
  rintro e w2 ⟨rfl, B2⟩
  have H2 := Lib.hid B2; clear B2
  have hnt := nil_text
  have hat := abc_text
  generalize sha [] = s0 at *
  generalize hs1 : sha [97, 98, 99] = s1 at *
  have HS1 := Lib.hid hs1; clear hs1
  have kc := fun (w : World) (C : Array Value) (n c : Nat) => Lib.run_convert_bytes_const (P := Tryd.prog) w 22 5 C n c Tryd.underlying22 Tryd.underlying5
  go_wp2_with fail
  have hb : Below w2.heap.size w2 (w2.alloc (.cells #[.int .u8 97, .int .u8 98, .int .u8 99] 5 (3, 4))) := (Below.refl _ _).alloc (Nat.le_refl _) _
  have hT2 : Tabs (w2.alloc (.cells #[.int .u8 97, .int .u8 98, .int .u8 99] 5 (3, 4))) := by
    have h1 := HT.out.below H1.out hw2
    have h2 := h1.below H2.out h1.two
    exact h2.below hb h2.two
  have hr : RB (w2.alloc (.cells #[.int .u8 97, .int .u8 98, .int .u8 99] 5 (3, 4))) (w2.alloc (.cells #[.int .u8 97, .int .u8 98, .int .u8 99] 5 (3, 4))).heap.size (some ⟨w2.heap.size, 0, none⟩) [97, 98, 99] := by
    refine fun _ => ⟨w2.heap.size, 0, rfl, by simp, by simp, fun j hj => ?_⟩
    have := cell_of_row (w2.alloc (.cells #[.int .u8 97, .int .u8 98, .int .u8 99] 5 (3, 4))) w2.heap.size (0 + j) _ 5 (3, 4) (heap_alloc_new w2 _)
    rw [this, Nat.zero_add]
    match j, hj with
    | 0, _ => rfl
    | 1, _ => rfl
    | 2, _ => rfl
  have HR := Lib.hid (And.intro hb (And.intro hT2 hr)); clear hb hT2 hr
  refine (sum_any _ HR.out.2.1 [97, 98, 99] _ 3 (Nat.le_refl _) bytes_abc HR.out.2.2 (by simp)).mono ?_
  rintro e w3 ⟨rfl, B3⟩
  have H3 := Lib.hid B3; clear B3
  rw [HS1.out]
  go_wp2_with fail
  refine (string_any w3 s1 (by rw [← HS1.out]; exact sha_length _) (by rw [← HS1.out]; exact Bytes.sha _)).mono ?_
  rintro e w4 ⟨rfl, B4⟩
  have H4 := Lib.hid B4; clear B4
  go_wp2_with fail
  go_ret
  refine ⟨by rfl, ?_⟩
  have l1 := H1.out.size
  have l2 := H2.out.size
  have l3 := H3.out.size
  have b3 := HR.out.1.trans (H3.out.mono (by simp))
  exact H1.out.trans ((H2.out.mono l1).trans ((b3.mono (by omega)).trans (H4.out.mono (by simp at l3; omega))))
end Go.Proofs.YtediocpdpghbfaaDoor
