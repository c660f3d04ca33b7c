/-
  THE WALKS OF THE SIZE TESTS: sizeOver (6), zzBytes_.. (5, 8): each answers some bool and turns nothing; where zzBytes says yes the sum of all lengths is at most 2^20.
-/
import Derived.Test.Qxb6628157aRows
import Derived.WalkKit
import Derived.ProofKit
import Derived.OpenShut
import Derived.ShutString
import Derived.Below
namespace Go.Proofs.Qxb6628157a
open Go.ChangeShapes Go.WideShapes Go.ChangeAt Go.RowKit

/-- WHAT THE WALK IS TOLD OF A SLICE OF STRINGS: its elements are xs; either it has none, or it leads to a row of cells that hold them. -/
def Strs (w : World) (a : Option Addr) (n c : Nat) (xs : List ByteArray) : Prop :=
  xs.length = n ∧ n ≤ c ∧ c ≤ maxLen ∧ (∀ s ∈ xs, s.size ≤ maxLen) ∧
  (n = 0 ∨ ∃ b o, a = some ⟨b, o, none⟩ ∧ b < w.heap.size ∧ ∀ j, j < n → w.cell? ⟨b, o + j, none⟩ = some (.string (xs.getD j ByteArray.empty)))

theorem Strs.at {w : World} {a : Option Addr} {n c : Nat} {xs : List ByteArray} (h : Strs w a n c xs) (k : Nat) (hk : k < n) :
    ∃ b o, a = some ⟨b, o, none⟩ ∧ w.cell? ⟨b, o + k, none⟩ = some (.string (xs.getD k ByteArray.empty)) ∧ (xs.getD k ByteArray.empty).size ≤ 9223372036854775807 := by
  obtain ⟨hl, _, _, hs, h⟩ := h
  rcases h with h | ⟨b, o, ha, _, hc⟩
  · omega
  · refine ⟨b, o, ha, hc k hk, ?_⟩
    have : xs.getD k ByteArray.empty ∈ xs := by
      rw [List.getD_eq_getElem?_getD, List.getElem?_eq_getElem (by omega)]
      exact List.getElem_mem _
    exact hs _ this

def sizes (xs : List ByteArray) : Nat := (xs.map ByteArray.size).sum

theorem sizes_take_succ (xs : List ByteArray) (k : Nat) (hk : k < xs.length) : sizes (xs.take (k + 1)) = sizes (xs.take k) + (xs.getD k ByteArray.empty).size := by
  unfold sizes
  rw [List.take_succ_eq_append_getElem hk, List.getD_eq_getElem?_getD, List.getElem?_eq_getElem hk, List.map_append, List.sum_append]
  simp


/-- The call answered some bool; where it said yes, p holds. -/
def Says (p : Prop) (e : Ending) : Prop := ∃ b, e = .returned (.bool b) ∧ (b = true → p)
theorem Says.no (p : Prop) : Says p (.returned (.bool false)) := ⟨false, rfl, fun h => by cases h⟩
theorem Says.yes {p : Prop} (h : p) : Says p (.returned (.bool true)) := ⟨true, rfl, fun _ => h⟩

set_option maxHeartbeats 1000000 in
theorem sizeOver_any (a0 : Option Addr) (n0 c0 : Nat) (xs : List ByteArray) (a1 : Option Addr) (n1 c1 : Nat) (ys : List ByteArray) (w : World) (h0 : Strs w a0 n0 c0 xs) (h1 : Strs w a1 n1 c1 ys) :
    Calls Try.prog 6 #[.slice a0 n0 c0, .slice a1 n1 c1] w fun e w' => Says True e ∧ w' = w := by
  have b0 : n0 ≤ 9223372036854775807 := by have := h0.2.1; have := h0.2.2.1; unfold maxLen at this; omega
  have b1 : n1 ≤ 9223372036854775807 := by have := h1.2.1; have := h1.2.2.1; unfold maxLen at this; omega
  have H0 : Hid (Strs w a0 n0 c0 xs) := h0
  have H1 : Hid (Strs w a1 n1 c1 ys) := h1
  clear h0 h1
  by_cases g0 : 65536 < (n0 : Int)
  · go_enter Try.func6, Try.ntmps6
    go_wp2
    go_ret
    exact ⟨Says.yes trivial, rfl⟩
  by_cases g1 : 65536 < (n1 : Int)
  · go_enter Try.func6, Try.ntmps6
    go_wp2
    go_ret
    exact ⟨Says.yes trivial, rfl⟩
  go_enter Try.func6, Try.ntmps6
  go_wp2
  go_loop [5, 6] (fun t i => ∃ k m : Nat, k ≤ n0 ∧ m ≤ 1048576 ∧ i = .int .i64 k ∧ t = .int .i64 m) (fun _ i => n0 - (intOf i).toNat)
  case atStart => exact ⟨0, 0, by omega, by omega, rfl, rfl⟩
  case round =>
    obtain ⟨k, m, hk, hm, rfl, rfl⟩ := hrel
    by_cases hlt : k < n0
    · obtain ⟨b, o, ha, hc, hs⟩ := H0.out.at k hlt
      rw [ha]
      generalize xs.getD k ByteArray.empty = s at hc hs
      clear ha
      by_cases hb : 1048576 < (s.size : Int)
      · go_wp2
        go_ret
        exact ⟨Says.yes trivial, rfl⟩
      by_cases hb2 : 1048576 < (m : Int) + (16 + (s.size : Int))
      · go_wp2
        go_ret
        exact ⟨Says.yes trivial, rfl⟩
      go_wp2
      go_round
      case rel => exact ⟨k + 1, m + (16 + s.size), by omega, by omega, by go_num, by go_num⟩
      case measure => simp [intOf]; omega
    · go_wp2
      clear hlt hk
      go_loop [5, 7] (fun t i => ∃ k m : Nat, k ≤ n1 ∧ m ≤ 1048576 ∧ i = .int .i64 k ∧ t = .int .i64 m) (fun _ i => n1 - (intOf i).toNat)
      case atStart => exact ⟨0, m, by omega, hm, rfl, rfl⟩
      case round =>
        obtain ⟨k, m, hk, hm, rfl, rfl⟩ := hrel
        by_cases hlt : k < n1
        · obtain ⟨b, o, ha, hc, hs⟩ := H1.out.at k hlt
          rw [ha]
          generalize ys.getD k ByteArray.empty = s at hc hs
          clear ha
          by_cases hb : 1048576 < (s.size : Int)
          · go_wp2
            go_ret
            exact ⟨Says.yes trivial, rfl⟩
          by_cases hb2 : 1048576 < (m : Int) + (16 + (s.size : Int))
          · go_wp2
            go_ret
            exact ⟨Says.yes trivial, rfl⟩
          go_wp2
          go_round
          case rel => exact ⟨k + 1, m + (16 + s.size), by omega, by omega, by go_num, by go_num⟩
          case measure => simp [intOf]; omega
        · go_wp2
          go_ret
          exact ⟨Says.no _, rfl⟩

set_option maxHeartbeats 1000000 in
theorem zzBytes5_any (a0 : Option Addr) (n0 c0 : Nat) (xs : List ByteArray) (a1 : Option Addr) (n1 c1 : Nat) (ys : List ByteArray) (q : Int) (w : World) (h0 : Strs w a0 n0 c0 xs) (h1 : Strs w a1 n1 c1 ys) :
    Calls Try.prog 5 #[.slice a0 n0 c0, .slice a1 n1 c1, .int .i64 q] w fun e w' => Says (n0 + sizes xs + n1 + sizes ys ≤ 1048576) e ∧ w' = w := by
  have b0 : n0 ≤ 9223372036854775807 := by have := h0.2.1; have := h0.2.2.1; unfold maxLen at this; omega
  have b1 : n1 ≤ 9223372036854775807 := by have := h1.2.1; have := h1.2.2.1; unfold maxLen at this; omega
  have H0 : Hid (Strs w a0 n0 c0 xs) := h0
  have H1 : Hid (Strs w a1 n1 c1 ys) := h1
  clear h0 h1
  by_cases g0 : 1048576 < (n0 : Int)
  · go_enter Try.func5, Try.ntmps5
    go_wp2
    go_ret
    exact ⟨Says.no _, rfl⟩
  go_enter Try.func5, Try.ntmps5
  go_wp2
  go_loop [7, 8] (fun t i => ∃ k m : Nat, k ≤ n0 ∧ m ≤ 1048576 ∧ i = .int .i64 k ∧ t = .int .i64 m ∧ Hid (m = n0 + sizes (xs.take k))) (fun _ i => n0 - (intOf i).toNat)
  case atStart => exact ⟨0, n0, by omega, by omega, rfl, rfl, by simp [Hid, sizes]⟩
  case round =>
    obtain ⟨k, m, hk, hm, rfl, rfl, HM⟩ := hrel
    by_cases hlt : k < n0
    · obtain ⟨b, o, ha, hc, hs⟩ := H0.out.at k hlt
      have HT : Hid (sizes (xs.take (k + 1)) = sizes (xs.take k) + (xs.getD k ByteArray.empty).size) := sizes_take_succ xs k (by have := H0.out.1; omega)
      rw [ha]
      generalize xs.getD k ByteArray.empty = s at hc hs HT
      clear ha
      by_cases hb : 1048576 < (s.size : Int)
      · go_wp2
        go_ret
        exact ⟨Says.no _, rfl⟩
      by_cases hb2 : 1048576 < (m : Int) + (s.size : Int)
      · go_wp2
        go_ret
        exact ⟨Says.no _, rfl⟩
      go_wp2
      go_round
      case rel => exact ⟨k + 1, m + s.size, by omega, by omega, by go_num, by go_num, by have := HT.out; have := HM.out; show _ = _; omega⟩
      case measure => simp [intOf]; omega
    · have HF : Hid (m = n0 + sizes xs) := by
        have := HM.out
        rw [List.take_of_length_le (by have := H0.out.1; omega)] at this
        exact this
      clear HM
      by_cases g1 : 1048576 < (n1 : Int)
      · go_wp2
        go_ret
        exact ⟨Says.no _, rfl⟩
      by_cases g2 : 1048576 < (m : Int) + (n1 : Int)
      · go_wp2
        go_ret
        exact ⟨Says.no _, rfl⟩
      go_wp2
      clear hlt hk
      go_loop [7, 9] (fun t i => ∃ k q : Nat, k ≤ n1 ∧ q ≤ 1048576 ∧ i = .int .i64 k ∧ t = .int .i64 q ∧ Hid (q = m + n1 + sizes (ys.take k))) (fun _ i => n1 - (intOf i).toNat)
      case atStart => exact ⟨0, m + n1, by omega, by omega, rfl, by go_num, by simp [Hid, sizes]⟩
      case round =>
        obtain ⟨k, q, hk, hq, rfl, rfl, HM⟩ := hrel
        by_cases hlt : k < n1
        · obtain ⟨b, o, ha, hc, hs⟩ := H1.out.at k hlt
          have HT : Hid (sizes (ys.take (k + 1)) = sizes (ys.take k) + (ys.getD k ByteArray.empty).size) := sizes_take_succ ys k (by have := H1.out.1; omega)
          rw [ha]
          generalize ys.getD k ByteArray.empty = s at hc hs HT
          clear ha
          by_cases hb : 1048576 < (s.size : Int)
          · go_wp2
            go_ret
            exact ⟨Says.no _, rfl⟩
          by_cases hb2 : 1048576 < (q : Int) + (s.size : Int)
          · go_wp2
            go_ret
            exact ⟨Says.no _, rfl⟩
          go_wp2
          go_round
          case rel => exact ⟨k + 1, q + s.size, by omega, by omega, by go_num, by go_num, by have := HT.out; have := HM.out; show _ = _; omega⟩
          case measure => simp [intOf]; omega
        · have HG : Hid (n0 + sizes xs + n1 + sizes ys ≤ 1048576) := by
            have h1 := HM.out
            rw [List.take_of_length_le (by have := H1.out.1; omega)] at h1
            have h2 := HF.out
            show _ ≤ _
            omega
          clear HM
          go_wp2
          go_ret
          exact ⟨Says.yes HG.out, rfl⟩

set_option maxHeartbeats 1000000 in
theorem zzBytes8_any (a0 : Option Addr) (n0 c0 : Nat) (xs : List ByteArray) (a1 : Option Addr) (n1 c1 : Nat) (ys : List ByteArray) (q : Int) (w : World) (h0 : Strs w a0 n0 c0 xs) (h1 : Strs w a1 n1 c1 ys) :
    Calls Try.prog 8 #[.slice a0 n0 c0, .slice a1 n1 c1, .int .i64 q] w fun e w' => Says (n0 + sizes xs + n1 + sizes ys ≤ 1048576) e ∧ w' = w := by
  have b0 : n0 ≤ 9223372036854775807 := by have := h0.2.1; have := h0.2.2.1; unfold maxLen at this; omega
  have b1 : n1 ≤ 9223372036854775807 := by have := h1.2.1; have := h1.2.2.1; unfold maxLen at this; omega
  have H0 : Hid (Strs w a0 n0 c0 xs) := h0
  have H1 : Hid (Strs w a1 n1 c1 ys) := h1
  clear h0 h1
  by_cases g0 : 1048576 < (n0 : Int)
  · go_enter Try.func8, Try.ntmps8
    go_wp2
    go_ret
    exact ⟨Says.no _, rfl⟩
  go_enter Try.func8, Try.ntmps8
  go_wp2
  go_loop [7, 8] (fun t i => ∃ k m : Nat, k ≤ n0 ∧ m ≤ 1048576 ∧ i = .int .i64 k ∧ t = .int .i64 m ∧ Hid (m = n0 + sizes (xs.take k))) (fun _ i => n0 - (intOf i).toNat)
  case atStart => exact ⟨0, n0, by omega, by omega, rfl, rfl, by simp [Hid, sizes]⟩
  case round =>
    obtain ⟨k, m, hk, hm, rfl, rfl, HM⟩ := hrel
    by_cases hlt : k < n0
    · obtain ⟨b, o, ha, hc, hs⟩ := H0.out.at k hlt
      have HT : Hid (sizes (xs.take (k + 1)) = sizes (xs.take k) + (xs.getD k ByteArray.empty).size) := sizes_take_succ xs k (by have := H0.out.1; omega)
      rw [ha]
      generalize xs.getD k ByteArray.empty = s at hc hs HT
      clear ha
      by_cases hb : 1048576 < (s.size : Int)
      · go_wp2
        go_ret
        exact ⟨Says.no _, rfl⟩
      by_cases hb2 : 1048576 < (m : Int) + (s.size : Int)
      · go_wp2
        go_ret
        exact ⟨Says.no _, rfl⟩
      go_wp2
      go_round
      case rel => exact ⟨k + 1, m + s.size, by omega, by omega, by go_num, by go_num, by have := HT.out; have := HM.out; show _ = _; omega⟩
      case measure => simp [intOf]; omega
    · have HF : Hid (m = n0 + sizes xs) := by
        have := HM.out
        rw [List.take_of_length_le (by have := H0.out.1; omega)] at this
        exact this
      clear HM
      by_cases g1 : 1048576 < (n1 : Int)
      · go_wp2
        go_ret
        exact ⟨Says.no _, rfl⟩
      by_cases g2 : 1048576 < (m : Int) + (n1 : Int)
      · go_wp2
        go_ret
        exact ⟨Says.no _, rfl⟩
      go_wp2
      clear hlt hk
      go_loop [7, 9] (fun t i => ∃ k q : Nat, k ≤ n1 ∧ q ≤ 1048576 ∧ i = .int .i64 k ∧ t = .int .i64 q ∧ Hid (q = m + n1 + sizes (ys.take k))) (fun _ i => n1 - (intOf i).toNat)
      case atStart => exact ⟨0, m + n1, by omega, by omega, rfl, by go_num, by simp [Hid, sizes]⟩
      case round =>
        obtain ⟨k, q, hk, hq, rfl, rfl, HM⟩ := hrel
        by_cases hlt : k < n1
        · obtain ⟨b, o, ha, hc, hs⟩ := H1.out.at k hlt
          have HT : Hid (sizes (ys.take (k + 1)) = sizes (ys.take k) + (ys.getD k ByteArray.empty).size) := sizes_take_succ ys k (by have := H1.out.1; omega)
          rw [ha]
          generalize ys.getD k ByteArray.empty = s at hc hs HT
          clear ha
          by_cases hb : 1048576 < (s.size : Int)
          · go_wp2
            go_ret
            exact ⟨Says.no _, rfl⟩
          by_cases hb2 : 1048576 < (q : Int) + (s.size : Int)
          · go_wp2
            go_ret
            exact ⟨Says.no _, rfl⟩
          go_wp2
          go_round
          case rel => exact ⟨k + 1, q + s.size, by omega, by omega, by go_num, by go_num, by have := HT.out; have := HM.out; show _ = _; omega⟩
          case measure => simp [intOf]; omega
        · have HG : Hid (n0 + sizes xs + n1 + sizes ys ≤ 1048576) := by
            have h1 := HM.out
            rw [List.take_of_length_le (by have := H1.out.1; omega)] at h1
            have h2 := HF.out
            show _ ≤ _
            omega
          clear HM
          go_wp2
          go_ret
          exact ⟨Says.yes HG.out, rfl⟩
end Go.Proofs.Qxb6628157a
