/-
  THE WALK OF PrefixSpan (6): it hands back the given text and its pend.
-/
import Derived.Test.Qxb6628451aRows
import Derived.Test.Qxb6628451aPlain
import Derived.WalkKit
import Derived.ProofKit
import Derived.OpenShut
import Derived.ShutString
import Derived.WalkLawsBesides
import Derived.WalkSpells
import Derived.Laws.IdiomStrings
namespace Go.Proofs.Qxb6628451a
open Go.ChangeShapes Go.WideShapes Go.ChangeAt Go.RowKit

theorem len_list (s : ByteArray) : s.data.toList.length = s.size := by simp
def pendS (s : ByteArray) : ByteArray := ⟨(pend s.data.toList).toArray⟩

theorem raise_toNat (c : UInt8) : (((c + 1).toNat : Nat) : Int) = ((c.toNat : Int) + 1) % 256 := by
  rw [UInt8.toNat_add]
  show ((((c.toNat + 1) % 256 : Nat)) : Int) = _
  omega
theorem conv1 (c : UInt8) (g : Nat) (W : World) (h : W.cell? ⟨g, 0, none⟩ = some (.int .u8 (((c.toNat : Int) + 1) % 256))) :
    (convert 28 9 (.slice (some ⟨g, 0, none⟩) 1 1)).run Try.prog W = .ok (.string ⟨#[c + 1]⟩) W := by
  refine run_convert_bytes_back W 28 9 5 ⟨g, 0, none⟩ 1 [c + 1] Try.underlying28 Try.underlying5 Try.underlying9 (fun j hj => ?_)
  obtain rfl : j = 0 := by simpa using hj
  rw [add_plain]
  show W.cell? ⟨g, 0, none⟩ = some (.int .u8 (((c + 1).toNat : Nat) : Int))
  rw [h, raise_toNat]

theorem getElem_list (s : ByteArray) (k : Nat) (h : k < s.size) : s.data.toList[k]'(by rw [len_list]; exact h) = s[k] := rfl
theorem pend_255 (p : ByteArray) (j : Nat) (hj : j < p.size) (h : p[j] = 255) (hq : pend (p.data.toList.drop (j + 1)) = []) : pend (p.data.toList.drop j) = [] := by
  rw [List.drop_eq_getElem_cons (by rw [len_list]; exact hj), getElem_list p j hj, h]
  simp [pend, hq]
theorem pend_here (p : ByteArray) (j : Nat) (hj : j < p.size) (h : ¬ p[j] = 255) (hq : pend (p.data.toList.drop (j + 1)) = []) : pendS p = p.extract 0 j ++ ⟨#[p[j] + 1]⟩ := by
  have e1 : pend (p.data.toList.drop j) = [p[j] + 1] := by
    rw [List.drop_eq_getElem_cons (by rw [len_list]; exact hj), getElem_list p j hj]
    simp [pend, hq, h]
  have e2 : pend p.data.toList = p.data.toList.take j ++ [p[j] + 1] := by
    have := pend_append (p.data.toList.take j) (p.data.toList.drop j)
    rw [List.take_append_drop, e1, if_neg (by simp)] at this
    exact this
  unfold pendS
  rw [e2]
  apply ByteArray.ext
  rw [ByteArray.data_append, ByteArray.data_extract]
  apply Array.ext'
  rw [Array.toList_append, Array.toList_extract, List.extract_eq_take_drop, List.drop_zero, Nat.sub_zero]
theorem pend_end (p : ByteArray) (hq : pend (p.data.toList.drop 0) = []) : pendS p = ⟨#[]⟩ := by
  unfold pendS
  rw [List.drop_zero] at hq
  rw [hq]

set_option maxHeartbeats 400000 in
theorem span6 (p : ByteArray) (w : World) (hs : p.size ≤ 1048576) :
    Calls Try.prog 6 #[.string p] w fun e w' => e = .returned (.agg #[.string p, .string (pendS p)]) ∧ Below w.heap.size w w' ∧ Grown w w' := by
  go_enter Try.func6, Try.ntmps6
  go_wp2
  go_loop [3] (fun i => ∃ k : Nat, k ≤ p.size ∧ i = .int .i64 ((k : Int) - 1) ∧ Hid (pend (p.data.toList.drop k) = [])) (fun i => (intOf i + 1).toNat)
  case atStart => exact ⟨p.size, Nat.le_refl _, rfl, by rw [List.drop_of_length_le (by rw [len_list]; exact Nat.le_refl _)]; exact rfl⟩
  case round =>
    obtain ⟨k, hk, rfl, HQ⟩ := hrel
    by_cases hlt : 1 ≤ k
    · obtain ⟨j, rfl⟩ : ∃ j, k = j + 1 := ⟨k - 1, by omega⟩
      have hj : j < p.size := by omega
      have hl : j < p.data.toList.length := by rw [len_list]; exact hj
      rw [show ((j + 1 : Nat) : Int) - 1 = (j : Int) by omega]
      by_cases h255 : p[j] = 255
      · have hb : ((p[j].toNat : Int) != 255) = false := by rw [h255]; rfl
        have HN : Hid (pend (p.data.toList.drop j) = []) := pend_255 p j hj h255 HQ.out
        clear h255
        go_wp2
        exact ⟨⟨j, by omega, by go_num, HN⟩, by simp [intOf]⟩
      · have hb : ((p[j].toNat : Int) != 255) = true := by
          rw [bne_iff_ne]
          intro h
          exact h255 (UInt8.toNat_inj.1 (by show p[j].toNat = 255; omega))
        have hj0 : j ≤ p.size := by omega
        have hconv := conv1 (p[j]'hj) (w.heap.size + 1)
        have HE : Hid (pendS p = p.extract 0 j ++ ⟨#[p[j] + 1]⟩) := pend_here p j hj h255 HQ.out
        clear h255
        go_wp2
        go_region
        go_wp2
        rw [HE.out]
        refine bodyPost_ret (v := .agg #[.string p, .string (p.extract 0 j ++ ⟨#[p[j] + 1]⟩)]) (by simp [results, Try.results6, go_sem]) rfl ⟨rfl, ?_, ?_⟩
        · exact (((Below.refl _ _).alloc (Nat.le_refl _) _).alloc (by simp) _).drew
        · exact (((Grown.refl _).alloc _ _).alloc _ _).drew
    · obtain rfl : k = 0 := by omega
      have HE : Hid (pendS p = ⟨#[]⟩) := pend_end p HQ.out
      clear HQ
      go_wp2
      rw [HE.out]
      exact bodyPost_ret (v := .agg #[.string p, .string ⟨#[]⟩]) (by simp [results, Try.results6, go_sem]) rfl ⟨rfl, (Below.refl _ _).alloc (Nat.le_refl _) _, (Grown.refl _).alloc _ _⟩
end Go.Proofs.Qxb6628451a
