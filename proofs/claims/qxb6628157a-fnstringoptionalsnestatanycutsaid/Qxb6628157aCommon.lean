/-
  COMMON TO BOTH LAWS: (Header).String in a later world; cuts of a slice of strings; texts.
-/
import Derived.Test.Qxb6628157aString
import Derived.WalkSpells
import Derived.WalkLawsBesides
namespace Go.Proofs.Qxb6628157a
open Go.ChangeShapes Go.WideShapes Go.ChangeAt Go.RowKit

theorem Strs.nil (w : World) : Strs w none 0 0 [] := ⟨rfl, Nat.le_refl _, Nat.zero_le _, by simp, .inl rfl⟩
/-- (Header).String in a world that has only grown since w. -/
theorem string_at (a0 : Option Addr) (n0 c0 : Nat) (xs : List ByteArray) (a1 : Option Addr) (n1 c1 : Nat) (ys : List ByteArray) (w wk : World) (hk : Below w.heap.size w wk) (h0 : Strs w a0 n0 c0 xs) (h1 : Strs w a1 n1 c1 ys)
    (hb : n0 + sizes xs + 3 * n1 + sizes ys ≤ 1099511627776) :
    Calls Try.prog 7 #[.agg #[.slice a0 n0 c0, .slice a1 n1 c1]] wk fun e w' => e = .returned (.string (txt (render (bytesOf xs) (bytesOf ys)))) ∧ Below w.heap.size w w' :=
  (string_any a0 n0 c0 xs a1 n1 c1 ys wk (h0.below hk) (h1.below hk) hb).mono fun _ _ ⟨he, hb⟩ => ⟨he, hk.trans (hb.mono hk.size)⟩

theorem txt_append (a b : List UInt8) : txt (a ++ b) = txt a ++ txt b := by
  apply ByteArray.ext
  simp [txt]
theorem txt_le (xs ys : List ByteArray) (n : Nat) (h : xs.length + sizes xs + 3 * ys.length + sizes ys ≤ n) : (txt (render (bytesOf xs) (bytesOf ys))).size ≤ n := by
  rw [txt_size]
  have := render_length (bytesOf xs) (bytesOf ys)
  rw [bytesOf_length, bytesOf_sum, bytesOf_length, bytesOf_sum] at this
  omega
theorem whole_parts (xs ys : List ByteArray) : txt (render (bytesOf xs) (bytesOf ys)) = txt (render (bytesOf xs) (bytesOf [])) ++ txt (render (bytesOf []) (bytesOf ys)) := by
  rw [← txt_append]
  exact congrArg txt (render_parts _ _)
theorem sizes_nil : sizes [] = 0 := rfl
theorem Strs.take {w : World} {a : Option Addr} {n c : Nat} {xs : List ByteArray} (h : Strs w a n c xs) (j : Nat) (hj : j ≤ n) : Strs w a j c (xs.take j) := by
  obtain ⟨h1, h2, h3, h4, h5⟩ := h
  refine ⟨by rw [List.length_take]; omega, by omega, h3, fun s hs => h4 s (List.mem_of_mem_take hs), ?_⟩
  rcases h5 with h5 | ⟨b, o, ha, hlt, hc⟩
  · exact .inl (by omega)
  · refine .inr ⟨b, o, ha, hlt, fun i hi => ?_⟩
    rw [hc i (by omega), List.getD_eq_getElem?_getD, List.getD_eq_getElem?_getD, List.getElem?_take_of_lt hi]
theorem Strs.drop {w : World} {b o : Nat} {n c : Nat} {xs : List ByteArray} (h : Strs w (some ⟨b, o, none⟩) n c xs) (j : Nat) (hj : j ≤ n) : Strs w (some ⟨b, o + j, none⟩) (n - j) (c - j) (xs.drop j) := by
  obtain ⟨h1, h2, h3, h4, h5⟩ := h
  refine ⟨by rw [List.length_drop]; omega, by omega, by omega, fun s hs => h4 s (List.mem_of_mem_drop hs), ?_⟩
  rcases h5 with h5 | ⟨b', o', ha, hlt, hc⟩
  · exact .inl (by omega)
  · cases ha
    refine .inr ⟨b, o + j, rfl, hlt, fun i hi => ?_⟩
    rw [Nat.add_assoc, hc (j + i) (by omega), List.getD_eq_getElem?_getD, List.getD_eq_getElem?_getD, List.getElem?_drop]
theorem sizes_drop (ys : List ByteArray) (k : Nat) : sizes (ys.drop k) ≤ sizes ys := by
  have : sizes ys = sizes (ys.take k) + sizes (ys.drop k) := by
    unfold sizes
    rw [← List.sum_append, ← List.map_append, List.take_append_drop]
  omega
theorem one_text (xs : List ByteArray) (h : 0 < xs.length) : txt (render (bytesOf (xs.take 1)) (bytesOf [])) = xs.getD 0 ByteArray.empty := by
  obtain ⟨x, r, rfl⟩ : ∃ x r, xs = x :: r := List.exists_cons_of_ne_nil (List.ne_nil_of_length_pos h)
  show txt (render [x.data.toList] []) = x
  rw [render_one]
  rfl
theorem cut_text (xs ys : List ByteArray) (j : Nat) (h1 : 1 ≤ j) (h2 : j < xs.length) :
    txt (render (bytesOf xs) (bytesOf ys)) = txt (render (bytesOf (xs.take j)) (bytesOf [])) ++ ⟨#[44]⟩ ++ txt (render (bytesOf (xs.drop j)) (bytesOf ys)) := by
  have e := render_cut (bytesOf xs) (bytesOf ys) j h1 (by rw [bytesOf_length]; exact h2)
  rw [e, txt_append, txt_append]
  simp only [bytesOf, List.map_take, List.map_drop]
  rfl

end Go.Proofs.Qxb6628157a
