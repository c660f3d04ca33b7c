/-
  THE WALK OF THE LAW FnPrefixSpanNestOrApart (4).
-/
import Derived.Test.Qxb6628451aFnPrefixSpanHoldsExactlyThePrefixedWalk
namespace Go.Proofs.Qxb6628451a
open Go.ChangeShapes Go.WideShapes Go.ChangeAt Go.RowKit

theorem nest_within {p q : ByteArray} (h : hasB q p = true) : withinB q (pendS q) p (pendS p) = true := by
  obtain ⟨h1, h2⟩ := nest h
  rw [withinB, h1, pendS_toList, pendS_toList]
  rcases h2 with h2 | ⟨h2, h3⟩
  · rw [h2]; rfl
  · rw [isEmpty_eq, isEmpty_eq, beq_eq_false_iff_ne.2 h2, h3]
    simp
theorem apart_ends {p q : ByteArray} (h : hasB q p = false) (hl : le p.toList q.toList = true) :
    (pendS p).toList.isEmpty = false ∧ (Op.bytesLess (pendS p).toList q.toList || (pendS p).toList == q.toList) = true := by
  obtain ⟨h1, h2⟩ := apart h hl
  rw [pendS_toList]
  exact ⟨by rw [isEmpty_eq, beq_eq_false_iff_ne.2 h1], h2⟩

namespace fnPrefixSpanNestOrApart
set_option maxHeartbeats 400000 in
theorem walk_long (p k : ByteArray) (w0 : p.size ≤ 9223372036854775807) (w1 : k.size ≤ 9223372036854775807) (w : World) (h : 524288 < p.size ∨ 524288 < k.size) :
    Calls Try.prog 4 #[.string p, .string k] w fun e w' => e = .returned (.bool true) ∧ Grown w w' := by
  by_cases h1 : 1048576 < (p.size : Int)
  · go_enter Try.func4, Try.ntmps4
    go_wp2
    go_ret
    exact ⟨rfl, Grown.refl _⟩
  by_cases h2 : 1048576 < (k.size : Int)
  · go_enter Try.func4, Try.ntmps4
    go_wp2
    go_ret
    exact ⟨rfl, Grown.refl _⟩
  by_cases h3 : 1048576 < (p.size : Int) + (k.size : Int)
  · go_enter Try.func4, Try.ntmps4
    go_wp2
    go_ret
    exact ⟨rfl, Grown.refl _⟩
  by_cases h4 : 524288 < (p.size : Int)
  · go_enter Try.func4, Try.ntmps4
    go_wp2
    go_ret
    exact ⟨rfl, Grown.refl _⟩
  have h5 : 524288 < (k.size : Int) := by omega
  clear h
  go_enter Try.func4, Try.ntmps4
  go_wp2
  go_ret
  exact ⟨rfl, Grown.refl _⟩
set_option maxHeartbeats 1000000 in
theorem walk_short (p q : ByteArray) (w : World) (h1 : p.size ≤ 524288) (h2 : q.size ≤ 524288) :
    Calls Try.prog 4 #[.string p, .string q] w fun e w' => e = .returned (.bool true) ∧ Grown w w' := by
  have i1 : (p.size : Int) ≤ 524288 := by omega
  have i2 : (q.size : Int) ≤ 524288 := by omega
  go_enter Try.func4, Try.ntmps4
  go_wp2_with (first | (go_at_call 9; go_in))
  refine (span6 p _ (by omega)).mono ?_
  rintro e w1 ⟨rfl, b1, g1⟩
  have G1 : Hid (Grown w w1) := g1
  clear b1 g1
  go_wp2_with fail
  refine (span6 q _ (by omega)).mono ?_
  rintro e w2 ⟨rfl, b2, g2⟩
  have G2 : Hid (Grown w w2) := grown_trans (G1.out.alloc _ _) g2
  have hz : w1.heap.size < w2.heap.size := by have := b2.size; simp at this; omega
  have c0 : w2.cell? ⟨w1.heap.size, 0, none⟩ = some (.string p) := by rw [b2.cell (p := ⟨w1.heap.size, 0, none⟩) (by simp)]; simp
  have c1 : w2.cell? ⟨w1.heap.size, 1, none⟩ = some (.string (pendS p)) := by rw [b2.cell (p := ⟨w1.heap.size, 1, none⟩) (by simp)]; simp
  clear b2 g2 G1
  go_wp2_with fail
  refine (has8 q p _ (by omega) (by omega)).mono ?_
  rintro e w3 ⟨rfl, rfl⟩
  cases hA : hasB q p with
  | true =>
    have HA : Hid (hasB q p = true) := hA
    clear hA
    go_wp2_with fail
    refine (within10 q (pendS q) p (pendS p) _).mono ?_
    rintro e w4 ⟨rfl, b4, g4⟩
    have G4 : Hid (Grown w w4) := grown_trans (G2.out.alloc _ _) g4
    clear b4 g4 G2
    rw [nest_within HA.out]
    go_wp2_with fail
    go_ret
    exact ⟨rfl, G4.out⟩
  | false =>
    have HA : Hid (hasB q p = false) := hA
    clear hA
    go_wp2_with fail
    refine (has8 p q _ (by omega) (by omega)).mono ?_
    rintro e w3 ⟨rfl, rfl⟩
    cases hB : hasB p q with
    | true =>
      have HB : Hid (hasB p q = true) := hB
      clear hB
      go_wp2_with fail
      refine (within10 p (pendS p) q (pendS q) _).mono ?_
      rintro e w4 ⟨rfl, b4, g4⟩
      have G4 : Hid (Grown w w4) := grown_trans (G2.out.alloc _ _) g4
      clear b4 g4 G2
      rw [nest_within HB.out]
      go_wp2_with fail
      go_ret
      exact ⟨rfl, G4.out⟩
    | false =>
      have HB : Hid (hasB p q = false) := hB
      clear hB
      have G3 : Hid (Grown w (w2.alloc (.cells #[.string q, .string (pendS q)] 24))) := G2.out.alloc _ _
      clear G2
      cases hL : Op.bytesLess p.toList q.toList with
      | true =>
        obtain ⟨a1, a2⟩ := apart_ends HA.out (le_of_less hL)
        have A2 : Hid ((Op.bytesLess (pendS p).toList q.toList || (pendS p).toList == q.toList) = true) := a2
        clear a2
        go_wp2_with fail
        go_ret
        exact ⟨ret_bool A2.out, G3.out⟩
      | false =>
        obtain ⟨a1, a2⟩ := apart_ends HB.out (total _ _ hL)
        have A2 : Hid ((Op.bytesLess (pendS q).toList p.toList || (pendS q).toList == p.toList) = true) := a2
        clear a2
        go_wp2_with fail
        go_ret
        exact ⟨ret_bool A2.out, G3.out⟩

theorem walk (p q : ByteArray) (w0 : p.size ≤ maxLen) (w1 : q.size ≤ maxLen) (w : World) :
    Calls Try.prog 4 #[.string p, .string q] w fun e w' => e = .returned (.bool true) ∧ Grown w w' := by
  by_cases h : 524288 < p.size ∨ 524288 < q.size
  · exact walk_long p q w0 w1 w h
  · exact walk_short p q w (by omega) (by omega)
end fnPrefixSpanNestOrApart
end Go.Proofs.Qxb6628451a
