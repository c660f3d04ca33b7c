/-
  THE WALK OF THE LAW FnPrefixSpanHoldsExactlyThePrefixed (3).
-/
import Derived.Test.Qxb6628451aHelpers
namespace Go.Proofs.Qxb6628451a
open Go.ChangeShapes Go.WideShapes Go.ChangeAt Go.RowKit

theorem grown_trans {a b c : World} (h : Grown a b) (k : Grown b c) : Grown a c :=
  ⟨World.keptBut_trans h.1 k.1, fun x => (k.2.1 x).trans (h.2.1 x), Nat.le_trans h.2.2 k.2.2⟩
theorem pendS_toList (p : ByteArray) : (pendS p).toList = pend p.toList := by
  rw [ByteArray.toList_eq, ByteArray.toList_eq]
  rfl
theorem isEmpty_eq (l : List UInt8) : l.isEmpty = (l == []) := by cases l <;> rfl
theorem in_has (p k : ByteArray) : inB p (pendS p) k = hasB k p := by
  have := span_law p.toList k.toList
  rw [inB, hasB, ← this, inSpan, pendS_toList, isEmpty_eq]

namespace fnPrefixSpanHoldsExactlyThePrefixed
set_option maxHeartbeats 400000 in
theorem walk_long (p k : ByteArray) (w0 : p.size ≤ 9223372036854775807) (w1 : k.size ≤ 9223372036854775807) (w : World) (h : 524288 < p.size ∨ 524288 < k.size) :
    Calls Try.prog 3 #[.string p, .string k] w fun e w' => e = .returned (.bool true) ∧ Grown w w' := by
  by_cases h1 : 1048576 < (p.size : Int)
  · go_enter Try.func3, Try.ntmps3
    go_wp2
    go_ret
    exact ⟨rfl, Grown.refl _⟩
  by_cases h2 : 1048576 < (k.size : Int)
  · go_enter Try.func3, Try.ntmps3
    go_wp2
    go_ret
    exact ⟨rfl, Grown.refl _⟩
  by_cases h3 : 1048576 < (p.size : Int) + (k.size : Int)
  · go_enter Try.func3, Try.ntmps3
    go_wp2
    go_ret
    exact ⟨rfl, Grown.refl _⟩
  by_cases h4 : 524288 < (p.size : Int)
  · go_enter Try.func3, Try.ntmps3
    go_wp2
    go_ret
    exact ⟨rfl, Grown.refl _⟩
  have h5 : 524288 < (k.size : Int) := by omega
  clear h
  go_enter Try.func3, Try.ntmps3
  go_wp2
  go_ret
  exact ⟨rfl, Grown.refl _⟩
set_option maxHeartbeats 1000000 in
theorem walk_short (p k : ByteArray) (w : World) (h1 : p.size ≤ 524288) (h2 : k.size ≤ 524288) :
    Calls Try.prog 3 #[.string p, .string k] w fun e w' => e = .returned (.bool true) ∧ Grown w w' := by
  have HE : Hid (inB p (pendS p) k = hasB k p) := in_has p k
  have i1 : (p.size : Int) ≤ 524288 := by omega
  have i2 : (k.size : Int) ≤ 524288 := by omega
  go_enter Try.func3, Try.ntmps3
  go_wp2_with (first | (go_at_call 5; go_in))
  refine (span6 p _ (by omega)).mono ?_
  rintro e w1 ⟨rfl, b1, g1⟩
  have G1 : Hid (Grown w w1) := g1
  clear b1 g1
  go_wp2_with fail
  refine (in7 p (pendS p) k _).mono ?_
  rintro e w2 ⟨rfl, b2, g2⟩
  have G2 : Hid (Grown w w2) := grown_trans (G1.out.alloc _ _) g2
  clear b2 g2 G1
  rw [HE.out]
  go_wp2_with fail
  refine (has8 k p _ (by omega) (by omega)).mono ?_
  rintro e w3 ⟨rfl, rfl⟩
  generalize hasB k p = b
  go_wp2_with fail
  go_ret
  exact ⟨ret_bool (by simp), G2.out⟩
theorem walk (p k : ByteArray) (w0 : p.size ≤ maxLen) (w1 : k.size ≤ maxLen) (w : World) :
    Calls Try.prog 3 #[.string p, .string k] w fun e w' => e = .returned (.bool true) ∧ Grown w w' := by
  by_cases h : 524288 < p.size ∨ 524288 < k.size
  · exact walk_long p k w0 w1 w h
  · exact walk_short p k w (by omega) (by omega)
end fnPrefixSpanHoldsExactlyThePrefixed
end Go.Proofs.Qxb6628451a
