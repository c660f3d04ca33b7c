/-
  THE WALK OF closingQuote (8) AND OF ITS DOOR ZZclosingQuote (6): they compute 'cqI'.
-/
import Derived.Test.Qxb6628256aRows
import Derived.Test.Qxb6628256aPlain
import Derived.WalkKit
import Derived.ProofKit
import Derived.OpenShut
import Derived.ShutString
import Derived.WalkLawsBesides
import Derived.WalkSpells
namespace Go.Proofs.Qxb6628256a
open Go.ChangeShapes Go.WideShapes Go.ChangeAt Go.RowKit

theorem ret_int {k : IntKind} {a b : Int} (h : a = b) : Ending.returned (.int k a) = .returned (.int k b) := by rw [h]
theorem getElem_list (s : ByteArray) (k : Nat) (h : k < s.size) : s.data.toList[k]'(by simpa using h) = s[k] := rfl
theorem len_list (s : ByteArray) : s.data.toList.length = s.size := by simp

set_option maxHeartbeats 400000 in
theorem quote8 (s : ByteArray) (w : World) (hs : s.size ≤ 9223372036854770000) :
    Calls Try.prog 8 #[.string s] w fun e w' => e = .returned (.int .i64 (cqI s.data.toList)) ∧ w' = w := by
  go_enter Try.func8, Try.ntmps8
  go_wp2
  go_loop [3] (fun i => ∃ k : Nat, k ≤ s.size + 1 ∧ i = .int .i64 k ∧ Hid (cq s.data.toList = cqFrom s.data.toList k)) (fun i => s.size + 1 - (intOf i).toNat)
  case atStart => exact ⟨0, Nat.zero_le _, rfl, (cqFrom_zero _).symm⟩
  case round =>
    obtain ⟨k, hk, rfl, HQ⟩ := hrel
    by_cases hlt : k < s.size
    · have hl : k < s.data.toList.length := by rw [len_list]; exact hlt
      by_cases h92 : s[k] = 92
      · have HN : Hid (cq s.data.toList = cqFrom s.data.toList (k + 2)) := HQ.out.trans (cqFrom_esc _ k hl h92)
        have hb : ((s[k].toNat : Int) == 92) = true := by rw [h92]; rfl
        clear h92
        go_wp2
        exact ⟨⟨k + 2, by omega, by go_num, HN⟩, by simp [intOf]; omega⟩
      have hb : ((s[k].toNat : Int) == 92) = false := by
        rw [beq_eq_false_iff_ne]
        intro h
        exact h92 (UInt8.toNat_inj.1 (by show s[k].toNat = 92; omega))
      by_cases h34 : s[k] = 34
      · have HN : Hid (cqI s.data.toList = k) := by
          show cqI _ = _
          unfold cqI
          rw [HQ.out, cqFrom_quote _ k hl h34]
        have hc : ((s[k].toNat : Int) == 34) = true := by rw [h34]; rfl
        clear h92 h34
        go_wp2
        go_ret
        exact ⟨ret_int HN.out.symm, rfl⟩
      · have HN : Hid (cq s.data.toList = cqFrom s.data.toList (k + 1)) := HQ.out.trans (cqFrom_other _ k hl h92 h34)
        have hc : ((s[k].toNat : Int) == 34) = false := by
          rw [beq_eq_false_iff_ne]
          intro h
          exact h34 (UInt8.toNat_inj.1 (by show s[k].toNat = 34; omega))
        clear h92 h34
        go_wp2
        go_round
        case rel => exact ⟨k + 1, by omega, by go_num, HN⟩
        case measure => simp [intOf]; omega
    · have HN : Hid (cqI s.data.toList = -1) := by
        show cqI _ = _
        unfold cqI
        rw [HQ.out, cqFrom_end _ k (by rw [len_list]; omega)]
      go_wp2
      go_ret
      exact ⟨ret_int HN.out.symm, rfl⟩

theorem quote6 (s : ByteArray) (w : World) (hs : s.size ≤ 9223372036854770000) :
    Calls Try.prog 6 #[.string s] w fun e w' => e = .returned (.int .i64 (cqI s.data.toList)) ∧ w' = w := by
  go_enter Try.func6, Try.ntmps6
  go_wp2_with fail
  refine (quote8 s _ hs).mono ?_
  rintro e w1 ⟨rfl, rfl⟩
  go_wp2_with fail
  go_ret
  exact ⟨rfl, rfl⟩
end Go.Proofs.Qxb6628256a
