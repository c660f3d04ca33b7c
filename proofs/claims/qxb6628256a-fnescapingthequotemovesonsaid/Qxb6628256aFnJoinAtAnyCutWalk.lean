/-
  THE WALK OF THE LAW FnJoinAtAnyCut (3).
-/
import Derived.Test.Qxb6628256aQuote
namespace Go.Proofs.Qxb6628256a
open Go.ChangeShapes Go.WideShapes Go.ChangeAt Go.RowKit

theorem data_append (a b : ByteArray) : (a ++ b).data.toList = a.data.toList ++ b.data.toList := by simp
theorem data_drop1 (b : ByteArray) : (b.extract 1 b.size).data.toList = b.data.toList.drop 1 := by
  rw [ByteArray.data_extract, Array.toList_extract, List.extract_eq_take_drop, List.take_of_length_le]
  rw [List.length_drop, len_list]
  exact Nat.le_refl _
theorem size34 (a : ByteArray) : (a ++ (⟨#[34]⟩ : ByteArray)).size = a.size + 1 := by rw [ByteArray.size_append]; rfl
theorem cqI_none {l : List UInt8} (h : cq l = none) : cqI l = -1 := by unfold cqI; rw [h]
theorem cqI_some {l : List UInt8} {k : Nat} (h : cq l = some k) : cqI l = k := by unfold cqI; rw [h]
theorem found_at {s : ByteArray} {k : Nat} (h : cq s.data.toList = some k) : ∃ hk : k < s.size, s[k] = 34 := by
  obtain ⟨a, r, e, ha, _, _⟩ := cq_found h
  have hl : k < s.data.toList.length := by rw [e]; simp; omega
  have hk : k < s.size := by rw [len_list] at hl; exact hl
  refine ⟨hk, ?_⟩
  have h2 : s.data.toList[k]'hl = 34 := by
    simp only [e]
    rw [List.getElem_append_right (by omega)]
    simp [ha]
  exact h2

namespace fnJoinAtAnyCut
set_option maxHeartbeats 400000 in
theorem walk_long (a b : ByteArray) (w0 : a.size ≤ 9223372036854775807) (w1 : b.size ≤ 9223372036854775807) (w : World) (h : 1048576 < a.size + b.size) :
    Calls Try.prog 3 #[.string a, .string b] w fun e w' => e = .returned (.bool true) ∧ Grown w w' := by
  by_cases h1 : 1048576 < (a.size : Int)
  · go_enter Try.func3, Try.ntmps3
    go_wp2
    go_ret
    exact ⟨rfl, Grown.refl _⟩
  by_cases h2 : 1048576 < (b.size : Int)
  · go_enter Try.func3, Try.ntmps3
    go_wp2
    go_ret
    exact ⟨rfl, Grown.refl _⟩
  have h3 : 1048576 < (a.size : Int) + (b.size : Int) := by omega
  go_enter Try.func3, Try.ntmps3
  go_wp2
  go_ret
  exact ⟨rfl, Grown.refl _⟩

/-- The head of the walk, up to the first call: the two texts are short. -/
theorem short {a b : ByteArray} (h : a.size + b.size ≤ 1048576) : (a.size : Int) ≤ 1048576 ∧ (b.size : Int) ≤ 1048576 ∧ (a.size : Int) + (b.size : Int) ≤ 1048576 := by omega

set_option maxHeartbeats 1000000 in
theorem walk_a (a b : ByteArray) (w : World) (h : a.size + b.size ≤ 1048576) (k : Nat) (hA : cq a.data.toList = some k) :
    Calls Try.prog 3 #[.string a, .string b] w fun e w' => e = .returned (.bool true) ∧ Grown w w' := by
  have HN := h
  have HA : Hid (cq a.data.toList = some k) := hA
  have HR : Hid (cq (a ++ b).data.toList = some k) := by
    show _ = _
    rw [data_append, cq_join, hA]
  clear hA
  obtain ⟨s1, s2, s3⟩ := short h
  have hS : (a ++ b).size ≤ 1048576 := by rw [ByteArray.size_append]; exact h
  obtain ⟨hk, h34⟩ := found_at (s := a ++ b) (k := k) HR.out
  clear HN h
  go_enter Try.func3, Try.ntmps3
  go_wp2_with (first | (go_at_call 5; go_in))
  refine (quote6 (a ++ b) _ (by omega)).mono ?_
  rintro e w1 ⟨rfl, rfl⟩
  rw [cqI_some HR.out]
  generalize a ++ b = S at hS hk h34 ⊢
  clear HR
  go_wp2_with fail
  refine (quote6 a _ (by omega)).mono ?_
  rintro e w2 ⟨rfl, rfl⟩
  rw [cqI_some HA.out]
  go_wp2_with fail
  go_ret
  exact ⟨rfl, Grown.refl _⟩
set_option maxHeartbeats 1000000 in
theorem walk_b1 (a b : ByteArray) (w : World) (h : a.size + b.size ≤ 1048576) (hA : cq a.data.toList = none) (hD : dang a.data.toList = false) (hB : cq b.data.toList = none) :
    Calls Try.prog 3 #[.string a, .string b] w fun e w' => e = .returned (.bool true) ∧ Grown w w' := by
  have HN := h
  have HA : Hid (cq a.data.toList = none) := hA
  have HQ : Hid (cq (a ++ ⟨#[34]⟩).data.toList = some a.size) := by
    show _ = _
    rw [data_append, show (⟨#[34]⟩ : ByteArray).data.toList = [34] from rfl, cq_join, hA, hD]
    simp [cq]
  have HB : Hid (cq b.data.toList = none) := hB
  have HR : Hid (cq (a ++ b).data.toList = none) := by
    show _ = _
    rw [data_append, cq_join, hA, hD, hB]
    rfl
  clear hA hD hB
  obtain ⟨s1, s2, s3⟩ := short h
  have hS : (a ++ b).size ≤ 1048576 := by rw [ByteArray.size_append]; exact h
  clear HN h
  go_enter Try.func3, Try.ntmps3
  go_wp2_with (first | (go_at_call 5; go_in))
  refine (quote6 (a ++ b) _ (by omega)).mono ?_
  rintro e w1 ⟨rfl, rfl⟩
  rw [cqI_none HR.out]
  generalize a ++ b = S at *
  go_wp2_with fail
  refine (quote6 a _ (by omega)).mono ?_
  rintro e w2 ⟨rfl, rfl⟩
  rw [cqI_none HA.out]
  go_wp2_with fail
  refine (quote6 _ _ (by have := size34 a; omega)).mono ?_
  rintro e w3 ⟨rfl, rfl⟩
  rw [cqI_some HQ.out]
  go_wp2_with fail
  refine (quote6 b _ (by omega)).mono ?_
  rintro e w4 ⟨rfl, rfl⟩
  rw [cqI_none HB.out]
  go_wp2_with fail
  go_ret
  exact ⟨rfl, Grown.refl _⟩
set_option maxHeartbeats 1000000 in
theorem walk_b2 (a b : ByteArray) (w : World) (h : a.size + b.size ≤ 1048576) (j : Nat) (hA : cq a.data.toList = none) (hD : dang a.data.toList = false) (hB : cq b.data.toList = some j) :
    Calls Try.prog 3 #[.string a, .string b] w fun e w' => e = .returned (.bool true) ∧ Grown w w' := by
  have HN := h
  have HA : Hid (cq a.data.toList = none) := hA
  have HQ : Hid (cq (a ++ ⟨#[34]⟩).data.toList = some a.size) := by
    show _ = _
    rw [data_append, show (⟨#[34]⟩ : ByteArray).data.toList = [34] from rfl, cq_join, hA, hD]
    simp [cq]
  have HB : Hid (cq b.data.toList = some j) := hB
  obtain ⟨hj, _⟩ := found_at hB
  have HR : Hid (cq (a ++ b).data.toList = some (a.size + j)) := by
    show _ = _
    rw [data_append, cq_join, hA, hD, hB]
    show some (j + a.data.toList.length) = _
    rw [len_list, Nat.add_comm]
  clear hA hD hB
  obtain ⟨s1, s2, s3⟩ := short h
  have hS : (a ++ b).size ≤ 1048576 := by rw [ByteArray.size_append]; exact h
  obtain ⟨hk, h34⟩ := found_at (s := a ++ b) (k := a.size + j) HR.out
  clear HN h
  go_enter Try.func3, Try.ntmps3
  go_wp2_with (first | (go_at_call 5; go_in))
  refine (quote6 (a ++ b) _ (by omega)).mono ?_
  rintro e w1 ⟨rfl, rfl⟩
  rw [cqI_some HR.out]
  generalize a ++ b = S at *
  go_wp2_with fail
  refine (quote6 a _ (by omega)).mono ?_
  rintro e w2 ⟨rfl, rfl⟩
  rw [cqI_none HA.out]
  go_wp2_with fail
  refine (quote6 _ _ (by have := size34 a; omega)).mono ?_
  rintro e w3 ⟨rfl, rfl⟩
  rw [cqI_some HQ.out]
  go_wp2_with fail
  refine (quote6 b _ (by omega)).mono ?_
  rintro e w4 ⟨rfl, rfl⟩
  rw [cqI_some HB.out]
  go_wp2_with fail
  go_ret
  exact ⟨rfl, Grown.refl _⟩
set_option maxHeartbeats 1000000 in
theorem walk_c0 (a b : ByteArray) (w : World) (h : a.size + b.size ≤ 1048576) (hA : cq a.data.toList = none) (hD : dang a.data.toList = true) (hB : b.size = 0) :
    Calls Try.prog 3 #[.string a, .string b] w fun e w' => e = .returned (.bool true) ∧ Grown w w' := by
  have HN := h
  have HA : Hid (cq a.data.toList = none) := hA
  have HQ : Hid (cq (a ++ ⟨#[34]⟩).data.toList = none) := by
    show _ = _
    rw [data_append, show (⟨#[34]⟩ : ByteArray).data.toList = [34] from rfl, cq_join, hA, hD]
    simp [cq]
  have HR : Hid (cq (a ++ b).data.toList = none) := by
    show _ = _
    have e : b.data.toList = [] := List.length_eq_zero_iff.1 (by rw [len_list]; exact hB)
    rw [data_append, e, List.append_nil]
    exact hA
  have hb0 : decide ((0 : Int) < (b.size : Int)) = false := decide_eq_false (by omega)
  have hb1 : b.size ≤ 0 := by omega
  clear hA hD hB
  obtain ⟨s1, s2, s3⟩ := short h
  have hS : (a ++ b).size ≤ 1048576 := by rw [ByteArray.size_append]; exact h
  clear HN h
  go_enter Try.func3, Try.ntmps3
  go_wp2_with (first | (go_at_call 5; go_in))
  refine (quote6 (a ++ b) _ (by omega)).mono ?_
  rintro e w1 ⟨rfl, rfl⟩
  rw [cqI_none HR.out]
  generalize a ++ b = S at *
  go_wp2_with fail
  refine (quote6 a _ (by omega)).mono ?_
  rintro e w2 ⟨rfl, rfl⟩
  rw [cqI_none HA.out]
  go_wp2_with fail
  refine (quote6 _ _ (by have := size34 a; omega)).mono ?_
  rintro e w3 ⟨rfl, rfl⟩
  rw [cqI_none HQ.out]
  go_wp2_with fail
  go_ret
  exact ⟨rfl, Grown.refl _⟩
set_option maxHeartbeats 1000000 in
theorem walk_c1 (a b : ByteArray) (w : World) (h : a.size + b.size ≤ 1048576) (hA : cq a.data.toList = none) (hD : dang a.data.toList = true) (hb : 0 < b.size) (hB : cq (b.data.toList.drop 1) = none) :
    Calls Try.prog 3 #[.string a, .string b] w fun e w' => e = .returned (.bool true) ∧ Grown w w' := by
  have HN := h
  have HA : Hid (cq a.data.toList = none) := hA
  have HQ : Hid (cq (a ++ ⟨#[34]⟩).data.toList = none) := by
    show _ = _
    rw [data_append, show (⟨#[34]⟩ : ByteArray).data.toList = [34] from rfl, cq_join, hA, hD]
    simp [cq]
  have HB : Hid (cq (b.extract 1 b.size).data.toList = none) := by
    show _ = _
    rw [data_drop1]
    exact hB
  have HR : Hid (cq (a ++ b).data.toList = none) := by
    show _ = _
    rw [data_append, cq_join, hA, hD, hB]
    rfl
  have hb0 : (0 : Int) < (b.size : Int) := by omega
  clear hA hD hB
  obtain ⟨s1, s2, s3⟩ := short h
  have hS : (a ++ b).size ≤ 1048576 := by rw [ByteArray.size_append]; exact h
  clear HN h
  go_enter Try.func3, Try.ntmps3
  go_wp2_with (first | (go_at_call 5; go_in))
  refine (quote6 (a ++ b) _ (by omega)).mono ?_
  rintro e w1 ⟨rfl, rfl⟩
  rw [cqI_none HR.out]
  generalize a ++ b = S at *
  go_wp2_with fail
  refine (quote6 a _ (by omega)).mono ?_
  rintro e w2 ⟨rfl, rfl⟩
  rw [cqI_none HA.out]
  go_wp2_with fail
  refine (quote6 _ _ (by have := size34 a; omega)).mono ?_
  rintro e w3 ⟨rfl, rfl⟩
  rw [cqI_none HQ.out]
  go_wp2_with fail
  refine (quote6 _ _ (by rw [ByteArray.size_extract]; omega)).mono ?_
  rintro e w4 ⟨rfl, rfl⟩
  rw [cqI_none HB.out]
  go_wp2_with fail
  go_ret
  exact ⟨rfl, Grown.refl _⟩
set_option maxHeartbeats 1000000 in
theorem walk_c2 (a b : ByteArray) (w : World) (h : a.size + b.size ≤ 1048576) (j : Nat) (hA : cq a.data.toList = none) (hD : dang a.data.toList = true) (hb : 0 < b.size) (hB : cq (b.data.toList.drop 1) = some j) :
    Calls Try.prog 3 #[.string a, .string b] w fun e w' => e = .returned (.bool true) ∧ Grown w w' := by
  have HN := h
  have HA : Hid (cq a.data.toList = none) := hA
  have HQ : Hid (cq (a ++ ⟨#[34]⟩).data.toList = none) := by
    show _ = _
    rw [data_append, show (⟨#[34]⟩ : ByteArray).data.toList = [34] from rfl, cq_join, hA, hD]
    simp [cq]
  have HB : Hid (cq (b.extract 1 b.size).data.toList = some j) := by
    show _ = _
    rw [data_drop1]
    exact hB
  have hj : j ≤ 1048576 := by
    obtain ⟨h1, _⟩ := found_at HB.out
    rw [ByteArray.size_extract] at h1
    omega
  have HR : Hid (cq (a ++ b).data.toList = some (a.size + 1 + j)) := by
    show _ = _
    rw [data_append, cq_join, hA, hD, hB]
    show some (j + (a.data.toList.length + 1)) = _
    rw [len_list, Nat.add_comm]
  have hb0 : (0 : Int) < (b.size : Int) := by omega
  clear hA hD hB
  obtain ⟨s1, s2, s3⟩ := short h
  have hS : (a ++ b).size ≤ 1048576 := by rw [ByteArray.size_append]; exact h
  obtain ⟨hk, h34⟩ := found_at (s := a ++ b) (k := a.size + 1 + j) HR.out
  clear HN h
  go_enter Try.func3, Try.ntmps3
  go_wp2_with (first | (go_at_call 5; go_in))
  refine (quote6 (a ++ b) _ (by omega)).mono ?_
  rintro e w1 ⟨rfl, rfl⟩
  rw [cqI_some HR.out]
  generalize a ++ b = S at *
  go_wp2_with fail
  refine (quote6 a _ (by omega)).mono ?_
  rintro e w2 ⟨rfl, rfl⟩
  rw [cqI_none HA.out]
  go_wp2_with fail
  refine (quote6 _ _ (by have := size34 a; omega)).mono ?_
  rintro e w3 ⟨rfl, rfl⟩
  rw [cqI_none HQ.out]
  go_wp2_with fail
  refine (quote6 _ _ (by rw [ByteArray.size_extract]; omega)).mono ?_
  rintro e w4 ⟨rfl, rfl⟩
  rw [cqI_some HB.out]
  go_wp2_with fail
  go_ret
  exact ⟨rfl, Grown.refl _⟩

theorem walk (a b : ByteArray) (w0 : a.size ≤ maxLen) (w1 : b.size ≤ maxLen) (w : World) :
    Calls Try.prog 3 #[.string a, .string b] w fun e w' => e = .returned (.bool true) ∧ Grown w w' := by
  by_cases h : 1048576 < a.size + b.size
  · exact walk_long a b w0 w1 w h
  have h : a.size + b.size ≤ 1048576 := by omega
  cases hA : cq a.data.toList with
  | some k => exact walk_a a b w h k hA
  | none =>
    cases hD : dang a.data.toList with
    | false =>
      cases hB : cq b.data.toList with
      | none => exact walk_b1 a b w h hA hD hB
      | some j => exact walk_b2 a b w h j hA hD hB
    | true =>
      by_cases hb : b.size = 0
      · exact walk_c0 a b w h hA hD hb
      · cases hB : cq (b.data.toList.drop 1) with
        | none => exact walk_c1 a b w h hA hD (by omega) hB
        | some j => exact walk_c2 a b w h j hA hD (by omega) hB
end fnJoinAtAnyCut
end Go.Proofs.Qxb6628256a
