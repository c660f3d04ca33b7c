/-
  THE CONTRACTS OF THE LAWS' OWN HELPERS: zzHasPrefix (8), zzInSpan (7), zzWithin (10).
-/
import Derived.Test.Qxb6628451aSpan
namespace Go.Proofs.Qxb6628451a
open Go.ChangeShapes Go.WideShapes Go.ChangeAt Go.RowKit

theorem ret_bool {a b : Bool} (h : a = b) : Ending.returned (.bool a) = .returned (.bool b) := by rw [h]
def hasB (s p : ByteArray) : Bool := p.toList.isPrefixOf s.toList
def inB (st en k : ByteArray) : Bool := le st.toList k.toList && (en.toList.isEmpty || Op.bytesLess k.toList en.toList)
def withinB (st en st2 en2 : ByteArray) : Bool := le st2.toList st.toList && (en2.toList.isEmpty || (!en.toList.isEmpty && le en.toList en2.toList))

theorem toList_length (s : ByteArray) : s.toList.length = s.size := by rw [ByteArray.toList_eq, len_list]
theorem has_yes (s p : ByteArray) (_h : p.size ≤ s.size) : ((s.extract 0 p.size).toList == p.toList) = hasB s p := by
  rw [hasB, Bool.eq_iff_iff, List.isPrefixOf_iff_prefix, List.prefix_iff_eq_take, beq_iff_eq, toList_length]
  rw [ByteArray.toList_eq (s.extract 0 p.size), ByteArray.data_extract, Array.toList_extract, List.extract_eq_take_drop, List.drop_zero, Nat.sub_zero, ← ByteArray.toList_eq]
  exact ⟨fun h => h.symm, fun h => h.symm⟩
theorem has_no (s p : ByteArray) (h : ¬ p.size ≤ s.size) : false = hasB s p := by
  symm
  rw [hasB, Bool.eq_false_iff]
  intro hp
  have := (List.isPrefixOf_iff_prefix.1 hp).length_le
  rw [toList_length, toList_length] at this
  exact h this

set_option maxHeartbeats 400000 in
theorem has8 (s p : ByteArray) (w : World) (_hs : s.size ≤ 1048576) (_hp : p.size ≤ 1048576) :
    Calls Try.prog 8 #[.string s, .string p] w fun e w' => e = .returned (.bool (hasB s p)) ∧ w' = w := by
  by_cases h : p.size ≤ s.size
  · have HE : Hid (((s.extract 0 p.size).toList == p.toList) = hasB s p) := has_yes s p h
    go_enter Try.func8, Try.ntmps8
    go_wp2
    go_ret
    exact ⟨ret_bool HE.out, rfl⟩
  · have HE : Hid (false = hasB s p) := has_no s p h
    go_enter Try.func8, Try.ntmps8
    go_wp2
    go_ret
    exact ⟨ret_bool HE.out, rfl⟩
set_option maxHeartbeats 400000 in
theorem in7 (st en k : ByteArray) (w : World) :
    Calls Try.prog 7 #[.agg #[.string st, .string en], .string k] w fun e w' => e = .returned (.bool (inB st en k)) ∧ Below w.heap.size w w' ∧ Grown w w' := by
  go_enter Try.func7, Try.ntmps7
  go_wp2
  all_goals
    go_ret
    refine ⟨ret_bool ?_, (Below.refl _ _).alloc (Nat.le_refl _) _, (Grown.refl _).alloc _ _⟩
    simp [inB, le, *]
set_option maxHeartbeats 400000 in
theorem within10 (st en st2 en2 : ByteArray) (w : World) :
    Calls Try.prog 10 #[.agg #[.string st, .string en], .agg #[.string st2, .string en2]] w fun e w' => e = .returned (.bool (withinB st en st2 en2)) ∧ Below w.heap.size w w' ∧ Grown w w' := by
  go_enter Try.func10, Try.ntmps10
  go_wp2
  all_goals
    go_ret
    refine ⟨ret_bool ?_, ((Below.refl _ _).alloc (Nat.le_refl _) _).alloc (by simp) _, ((Grown.refl _).alloc _ _).alloc _ _⟩
    simp [withinB, le, *]
end Go.Proofs.Qxb6628451a
