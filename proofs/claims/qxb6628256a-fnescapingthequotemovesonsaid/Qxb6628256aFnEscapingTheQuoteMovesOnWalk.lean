/-
  THE WALK OF THE LAW FnEscapingTheQuoteMovesOn (4).
-/
import Derived.Test.Qxb6628256aFnJoinAtAnyCutWalk
import Derived.Deep.QuietTactic
import Derived.BigQuiet
namespace Go.Proofs.Qxb6628256a
open Go.ChangeShapes Go.WideShapes Go.ChangeAt Go.RowKit

theorem data_from (s : ByteArray) (k : Nat) : (s.extract k s.size).data.toList = s.data.toList.drop k := by
  rw [ByteArray.data_extract, Array.toList_extract, List.extract_eq_take_drop, List.take_of_length_le]
  rw [List.length_drop, len_list]
  exact Nat.le_refl _
theorem data_upto (s : ByteArray) (k : Nat) : (s.extract 0 k).data.toList = s.data.toList.take k := by
  rw [ByteArray.data_extract, Array.toList_extract, List.extract_eq_take_drop, List.drop_zero, Nat.sub_zero]
theorem size3434 (a : ByteArray) : (a ++ (⟨#[34, 34]⟩ : ByteArray)).size = a.size + 2 := by rw [ByteArray.size_append]; rfl
theorem two_quotes (s : ByteArray) (h : cq s.data.toList = none) : cq (s ++ (⟨#[34, 34]⟩ : ByteArray)).data.toList = some (if dang s.data.toList then s.size + 1 else s.size) := by
  rw [data_append, show (⟨#[34, 34]⟩ : ByteArray).data.toList = [34, 34] from rfl, cq_join, h]
  cases dang s.data.toList <;> simp [cq]
theorem hidden (s : ByteArray) (k : Nat) (h : cq s.data.toList = some k) :
    cq (s.extract 0 k ++ (⟨#[92]⟩ : ByteArray) ++ s.extract k s.size).data.toList = (cq (s.extract (k + 1) s.size).data.toList).map (· + (k + 2)) := by
  obtain ⟨a, r, e, ha, hq, hd⟩ := cq_found h
  rw [data_append, data_append, data_from, data_from, data_upto, e, show (⟨#[92]⟩ : ByteArray).data.toList = [92] from rfl]
  subst ha
  rw [List.take_left' rfl, List.drop_left' rfl, show a ++ 34 :: r = (a ++ [34]) ++ r by simp, List.drop_left' (by simp), List.append_assoc, cq_join, hq, hd]
  show (cq (92 :: 34 :: r)).map _ = _
  rw [cq_esc, Option.map_map]
  congr 1
  funext x
  simp only [Function.comp]
  omega
theorem size_hidden (s : ByteArray) (k : Nat) (hk : k ≤ s.size) : (s.extract 0 k ++ (⟨#[92]⟩ : ByteArray) ++ s.extract k s.size).size = s.size + 1 := by
  rw [ByteArray.size_append, ByteArray.size_append, ByteArray.size_extract, ByteArray.size_extract, show (⟨#[92]⟩ : ByteArray).size = 1 from rfl]
  omega

theorem hidden_list (s : ByteArray) (k : Nat) : (s.extract 0 k ++ (⟨#[92]⟩ : ByteArray) ++ s.extract k s.size).data.toList = List.take k s.data.toList ++ 92 :: List.take (s.size - k) (List.drop k s.data.toList) := by
  rw [data_append, data_append, data_from, data_upto, List.take_of_length_le (l := List.drop k s.data.toList) (by rw [List.length_drop, len_list]; exact Nat.le_refl _)]
  show _ ++ [92] ++ _ = _
  simp
theorem ret_bool {a b : Bool} (h : a = b) : Ending.returned (.bool a) = .returned (.bool b) := by rw [h]
theorem grown_drewN (w : World) (n : Nat) : Grown w (w.drewN n) := Grown.refl w

namespace fnEscapingTheQuoteMovesOn
set_option maxHeartbeats 400000 in
theorem walk_long (s : ByteArray) (_w0 : s.size ≤ 9223372036854775807) (w : World) (h : 1048576 < (s.size : Int)) :
    Calls Try.prog 4 #[.string s] w fun e w' => e = .returned (.bool true) ∧ Grown w w' := by
  go_enter Try.func4, Try.ntmps4
  go_wp2
  go_ret
  exact ⟨rfl, Grown.refl _⟩
set_option maxHeartbeats 1000000 in
theorem walk_none (s : ByteArray) (w : World) (h : (s.size : Int) ≤ 1048576) (hq : cq s.data.toList = none) (b : Bool) (hb : dang s.data.toList = b) :
    Calls Try.prog 4 #[.string s] w fun e w' => e = .returned (.bool true) ∧ Grown w w' := by
  have HQ : Hid (cq s.data.toList = none) := hq
  have HT : Hid (cq (s ++ (⟨#[34, 34]⟩ : ByteArray)).data.toList = some (if b then s.size + 1 else s.size)) := by
    rw [← hb]
    exact two_quotes s hq
  clear hq hb
  go_enter Try.func4, Try.ntmps4
  go_wp2_with (first | (go_at_call 7; go_in))
  refine (quote6 _ _ (by omega)).mono ?_
  rintro e w1 ⟨rfl, rfl⟩
  rw [cqI_none HQ.out]
  go_wp2_with fail
  refine (quote6 _ _ (by have := size3434 s; omega)).mono ?_
  rintro e w2 ⟨rfl, rfl⟩
  rw [cqI_some HT.out]
  cases b with
  | true =>
    rw [if_pos rfl]
    have hz : ((s.size : Int) + 1 == (s.size : Int)) = false := beq_eq_false_iff_ne.2 (by omega)
    go_wp2_with fail
    go_ret
    exact ⟨rfl, Grown.refl _⟩
  | false =>
    rw [if_neg (by simp)]
    go_wp2_with fail
    go_ret
    exact ⟨rfl, Grown.refl _⟩
set_option maxHeartbeats 1000000 in
theorem walk_some (s : ByteArray) (w : World) (h : (s.size : Int) ≤ 1048576) (k : Nat) (hq : cq s.data.toList = some k) (o : Option Nat) (ho : cq (s.extract (k + 1) s.size).data.toList = o) :
    Calls Try.prog 4 #[.string s] w fun e w' => e = .returned (.bool true) ∧ Grown w w' := by
  have HQ : Hid (cq s.data.toList = some k) := hq
  obtain ⟨hk, h34⟩ := found_at hq
  have HO : Hid (cq (s.extract (k + 1) s.size).data.toList = o) := ho
  have HH : Hid (cq (s.extract 0 k ++ (⟨#[92]⟩ : ByteArray) ++ s.extract k s.size).data.toList = o.map (· + (k + 2))) := by
    rw [← ho]
    exact hidden s k hq
  clear hq ho
  have hk1 : k + 1 ≤ s.size := hk
  have hk0 : k ≤ s.size := by omega
  have HZ : Hid ((s.extract 0 k ++ (⟨#[92]⟩ : ByteArray) ++ s.extract k s.size).size = s.size + 1) := size_hidden s k hk0
  go_enter Try.func4, Try.ntmps4
  go_wp2_with (first | (go_at_call 7; go_in))
  refine (quote6 _ _ (by omega)).mono ?_
  rintro e w1 ⟨rfl, rfl⟩
  rw [cqI_some HQ.out]
  go_wp2_with fail
  refine (quote6 _ _ (by rw [ByteArray.size_extract]; omega)).mono ?_
  rintro e w2 ⟨rfl, rfl⟩
  rw [hidden_list] at HH
  cases o with
  | none =>
    rw [cqI_none HO.out]
    go_wp2_with fail
    go_quiet ((go_at_call 6; exact Calls.quiet_of_same (quote6 _ _ (by have := HZ.out; omega))))
    rw [cqI_none HH.out]
    go_wp2_with fail
    go_ret
    exact ⟨rfl, grown_drewN _ _⟩
  | some j =>
    have hj : j ≤ 1048576 := by
      obtain ⟨h1, _⟩ := found_at HO.out
      rw [ByteArray.size_extract] at h1
      omega
    rw [cqI_some HO.out]
    go_wp2_with fail
    go_quiet ((go_at_call 6; exact Calls.quiet_of_same (quote6 _ _ (by have := HZ.out; omega))))
    rw [cqI_some HH.out]
    go_wp2_with fail
    go_ret
    refine ⟨ret_bool ?_, grown_drewN _ _⟩
    simp
    omega

theorem walk (s : ByteArray) (w0 : s.size ≤ maxLen) (w : World) :
    Calls Try.prog 4 #[.string s] w fun e w' => e = .returned (.bool true) ∧ Grown w w' := by
  by_cases h : 1048576 < (s.size : Int)
  · exact walk_long s w0 w h
  have h : (s.size : Int) ≤ 1048576 := by omega
  cases hq : cq s.data.toList with
  | none => exact walk_none s w h hq _ rfl
  | some k => exact walk_some s w h k hq _ rfl
end fnEscapingTheQuoteMovesOn
end Go.Proofs.Qxb6628256a
