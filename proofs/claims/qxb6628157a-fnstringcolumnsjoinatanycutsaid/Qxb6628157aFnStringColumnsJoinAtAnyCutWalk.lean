/-
  THE WALK OF THE LAW FnStringColumnsJoinAtAnyCut (3).
-/
import Derived.Test.Qxb6628157aCommon
namespace Go.Proofs.Qxb6628157a
open Go.ChangeShapes Go.WideShapes Go.ChangeAt Go.RowKit

namespace fnStringColumnsJoinAtAnyCut
set_option maxHeartbeats 1000000 in
theorem walk (a0 : Option Addr) (n0 c0 : Nat) (xs : List ByteArray) (a1 : Option Addr) (n1 c1 : Nat) (ys : List ByteArray) (q : Int) (w : World) (h0 : Strs w a0 n0 c0 xs) (h1 : Strs w a1 n1 c1 ys) (_hq : (Lit.int .i64 q).wf = true) :
    Calls Try.prog 3 #[.slice a0 n0 c0, .slice a1 n1 c1, .int .i64 q] w fun e w' => e = .returned (.bool true) ∧ Below w.heap.size w w' := by
  have H0 : Hid (Strs w a0 n0 c0 xs) := h0
  have H1 : Hid (Strs w a1 n1 c1 ys) := h1
  clear h0 h1
  go_enter Try.func3, Try.ntmps3
  go_wp2_with fail
  refine (zzBytes5_any a0 n0 c0 xs a1 n1 c1 ys q _ H0.out H1.out).mono ?_
  rintro e w1 ⟨⟨b, rfl, hyes⟩, rfl⟩
  cases b with
  | false =>
    clear hyes
    go_wp2_with fail
    go_ret
    exact ⟨rfl, Below.refl _ _⟩
  | true =>
  have HB : Hid (n0 + sizes xs + n1 + sizes ys ≤ 1048576) := hyes rfl
  have e0 : xs.length = n0 := H0.out.1
  have e1 : ys.length = n1 := H1.out.1
  have bn0 : n0 ≤ 1048576 := by have := HB.out; omega
  have bn1 : n1 ≤ 1048576 := by have := HB.out; omega
  have E0 : Hid (xs.length = n0) := e0
  have E1 : Hid (ys.length = n1) := e1
  clear hyes e0 e1
  go_wp2_with fail
  refine (sizeOver_any a0 n0 c0 xs a1 n1 c1 ys _ H0.out H1.out).mono ?_
  rintro e w2 ⟨⟨b, rfl, _⟩, rfl⟩
  cases b with
  | true =>
    go_wp2_with fail
    go_ret
    exact ⟨rfl, Below.refl _ _⟩
  | false =>
  go_wp2_with fail
  refine (string_at a0 n0 c0 xs a1 n1 c1 ys w2 _ (Below.refl _ _) H0.out H1.out (by have := HB.out; omega)).mono ?_
  rintro e w3 ⟨rfl, hb3⟩
  have B3 : Hid (Below w2.heap.size w2 w3) := hb3
  clear hb3
  go_wp2_with fail
  refine (string_at a0 n0 c0 xs none 0 0 [] w2 _ B3.out H0.out (Strs.nil _) (by have := HB.out; rw [sizes_nil]; omega)).mono ?_
  rintro e w4 ⟨rfl, hb4⟩
  have B4 : Hid (Below w2.heap.size w2 w4) := hb4
  clear hb4 B3
  go_wp2_with fail
  refine (string_at none 0 0 [] a1 n1 c1 ys w2 _ B4.out (Strs.nil _) H1.out (by have := HB.out; rw [sizes_nil]; omega)).mono ?_
  rintro e w5 ⟨rfl, hb5⟩
  have B5 : Hid (Below w2.heap.size w2 w5) := hb5
  clear hb5 B4
  rw [whole_parts xs ys]
  have HW : Hid (txt (render (bytesOf xs) (bytesOf [])) ++ txt (render (bytesOf []) (bytesOf ys)) = txt (render (bytesOf xs) (bytesOf ys))) := (whole_parts xs ys).symm
  have hC : (txt (render (bytesOf xs) (bytesOf []))).size ≤ 4194304 := txt_le _ _ _ (by have := HB.out; have := E0.out; rw [sizes_nil]; simp; omega)
  have hO : (txt (render (bytesOf []) (bytesOf ys))).size ≤ 4194304 := txt_le _ _ _ (by have := HB.out; have := E1.out; rw [sizes_nil]; simp; omega)
  generalize txt (render (bytesOf xs) (bytesOf [])) = C at HW hC ⊢
  generalize txt (render (bytesOf []) (bytesOf ys)) = O at HW hO ⊢
  rcases H0.out.2.2.2.2 with hz | ⟨b, o, ha, _, hcl⟩
  · subst hz
    go_wp2_with fail
    go_ret
    exact ⟨rfl, B5.out⟩
  subst ha
  by_cases hz : n0 = 0
  · subst hz
    go_wp2_with fail
    go_ret
    exact ⟨rfl, B5.out⟩
  have hc0 : (1 : Int) ≤ (c0 : Int) := by have := H0.out.2.1; omega
  have hz' : ((n0 : Int) == 0) = false := beq_eq_false_iff_ne.2 (by omega)
  have HCL : Hid (∀ j, j < n0 → w2.cell? ⟨b, o + j, none⟩ = some (.string (xs.getD j ByteArray.empty))) := hcl
  clear hcl
  go_wp2_with fail
  refine (string_at (some ⟨b, o, none⟩) 1 c0 (xs.take 1) none 0 0 [] w2 _ B5.out (H0.out.take 1 (by omega)) (Strs.nil _) (by have := HB.out; have := sizes_take xs 1; rw [sizes_nil]; omega)).mono ?_
  rintro e w6 ⟨rfl, hb6⟩
  have B6 : Hid (Below w2.heap.size w2 w6) := hb6
  clear hb6
  rw [one_text xs (by have := E0.out; omega)]
  have hx : w6.cell? ⟨b, o, none⟩ = some (.string (xs.getD 0 ByteArray.empty)) := by
    have := (H0.out.below B6.out).at 0 (by omega)
    obtain ⟨b', o', ha, hc, _⟩ := this
    cases ha
    simpa using hc
  generalize xs.getD 0 ByteArray.empty = x0 at hx ⊢
  by_cases hj1 : q < 1
  · go_wp2_with fail
    go_ret
    exact ⟨rfl, B6.out⟩
  by_cases hj2 : (n0 : Int) ≤ q
  · go_wp2_with fail
    go_ret
    exact ⟨rfl, B6.out⟩
  obtain ⟨j, rfl⟩ := Int.eq_ofNat_of_zero_le (show 0 ≤ q by omega)
  have hcj : j < c0 := by have := H0.out.2.1; omega
  go_wp2_with fail
  refine (string_at (some ⟨b, o, none⟩) j c0 (xs.take j) none 0 0 [] w2 _ B6.out (H0.out.take j (by omega)) (Strs.nil _) (by have := HB.out; have := sizes_take xs j; rw [sizes_nil]; omega)).mono ?_
  rintro e w7 ⟨rfl, hb7⟩
  have B7 : Hid (Below w2.heap.size w2 w7) := hb7
  clear hb7
  go_wp2_with fail
  refine (string_at (some ⟨b, o + j, none⟩) (n0 - j) (c0 - j) (xs.drop j) a1 n1 c1 ys w2 _ B7.out (H0.out.drop j (by omega)) H1.out (by have := HB.out; have := sizes_drop xs j; omega)).mono ?_
  rintro e w8 ⟨rfl, hb8⟩
  have B8 : Hid (Below w2.heap.size w2 w8) := hb8
  clear hb8
  have hL : (txt (render (bytesOf (xs.take j)) (bytesOf []))).size ≤ 4194304 := txt_le _ _ _ (by have := HB.out; have := E0.out; have := sizes_take xs j; rw [sizes_nil, List.length_take]; simp; omega)
  have hR : (txt (render (bytesOf (xs.drop j)) (bytesOf ys))).size ≤ 4194304 := txt_le _ _ _ (by have := HB.out; have := E0.out; have := E1.out; have := sizes_drop xs j; rw [List.length_drop]; omega)
  rw [HW.out, cut_text xs ys j (by omega) (by have := E0.out; omega)]
  generalize txt (render (bytesOf (xs.take j)) (bytesOf [])) = L at hL ⊢
  generalize txt (render (bytesOf (xs.drop j)) (bytesOf ys)) = R at hR ⊢
  have h44 : (⟨#[44]⟩ : ByteArray).size = 1 := rfl
  clear hC hO HW
  go_wp2_with fail
  go_ret
  exact ⟨rfl, B8.out⟩
end fnStringColumnsJoinAtAnyCut
end Go.Proofs.Qxb6628157a
