/-
  THE WALK OF (Header).String (7) over the shelf's contracts: it computes 'render'.
-/
import Derived.Test.Qxb6628157aSizes
import Derived.Test.Qxb6628157aPlain
import Derived.Test.Qxb6628157aShelf
namespace Go.Proofs.Qxb6628157a
open Go.ChangeShapes Go.WideShapes Go.ChangeAt Go.RowKit

theorem Strs.below {w w' : World} {a : Option Addr} {n c : Nat} {xs : List ByteArray} (h : Strs w a n c xs) (hb : Below w.heap.size w w') : Strs w' a n c xs := by
  obtain ⟨h1, h2, h3, h4, h5⟩ := h
  refine ⟨h1, h2, h3, h4, ?_⟩
  rcases h5 with h5 | ⟨b, o, ha, hlt, hc⟩
  · exact .inl h5
  · exact .inr ⟨b, o, ha, Nat.lt_of_lt_of_le hlt hb.size, fun j hj => by rw [hb.cell (p := ⟨b, o + j, none⟩) hlt]; exact hc j hj⟩

theorem ownsRow_below {w w' : World} {B : Nat} {e : TypeId} {v : Value} {n : Nat} {xs : List Value} (h : w.ownsRow B e 1 v n xs) (hb : Below w.heap.size w w') : w'.ownsRow B e 1 v n xs := by
  obtain ⟨h1, h2⟩ := h
  refine ⟨h1, ?_⟩
  rcases h2 with h2 | ⟨g, cap, cur, hv, hg, hh, r⟩
  · exact Or.inl h2
  · have hlt : g < w.heap.size := by
      rcases Nat.lt_or_ge g w.heap.size with h | h
      · exact h
      · rw [Array.getElem?_eq_none h] at hh; cases hh
    exact Or.inr ⟨g, cap, cur, hv, hg, by rw [hb.block g hlt]; exact hh, r⟩

theorem builderAt_below {T e : TypeId} {B b : Nat} {p : Value} {bs : List Value} {w w' : World} (h : Lib.BuilderAt T e B b p bs w) (hb : Below w.heap.size w w') : Lib.BuilderAt T e B b p bs w' := by
  have hlt := h.lt
  obtain ⟨h1, v, h2, h3, h4⟩ := h
  exact ⟨h1, v, by rw [hb.block b hlt]; exact h2, ownsRow_below h3 hb, h4⟩

theorem isBuilder_below {T e : TypeId} {B b : Nat} {bs : List Value} {w w' : World} (h : Lib.IsBuilder T e B b bs w) (hb : Below w.heap.size w w') : Lib.IsBuilder T e B b bs w' :=
  h.elim (fun h => .inl (builderAt_below h hb)) (fun h => .inr (builderAt_below h hb))

def txt (l : List UInt8) : ByteArray := ⟨l.toArray⟩
theorem txt_size (l : List UInt8) : (txt l).size = l.length := by simp [txt, ByteArray.size]
theorem txt_data (l : List UInt8) : (txt l).data.toList = l := by simp [txt]
def bytesOf (xs : List ByteArray) : List (List UInt8) := xs.map (·.data.toList)
theorem bytesOf_length (xs : List ByteArray) : (bytesOf xs).length = xs.length := by simp [bytesOf]
theorem bytesOf_sum (xs : List ByteArray) : ((bytesOf xs).map List.length).sum = sizes xs := by
  unfold bytesOf sizes
  rw [List.map_map]
  congr 1

theorem write_any (B b : Nat) (l : List UInt8) (s : ByteArray) (w : World) (h : Lib.IsBuilder 31 5 B b (Lib.byteCells l) w) (hlen : l.length + s.size ≤ 140737488355328) (hBw : B ≤ w.heap.size) :
    Calls Try.prog 9 #[.pointer (some ⟨b, 0, none⟩), .string s] w fun e w' => e = .returned (.tuple #[.int .i64 s.size, .nilIface]) ∧ Lib.IsBuilder 31 5 B b (Lib.byteCells (l ++ s.data.toList)) w' ∧ Below B w w' :=
  (Try.Builder_WriteString B b (Lib.byteCells l) s w h (by rw [Lib.byteCells_length]; exact hlen) hBw).mono fun _ _ ⟨he, hb, hbel⟩ => ⟨he, .inr (by rw [Lib.byteCells_append, ← Lib.strCells_eq]; exact hb), hbel⟩

theorem join_any (a : Option Addr) (n c : Nat) (xs : List ByteArray) (w : World) (h : Strs w a n c xs) (hb : n + sizes xs ≤ 140737488355328) :
    Calls Try.prog 10 #[.slice a n c, .string ⟨#[44]⟩] w fun e w' => e = .returned (.string (txt (Lib.join (bytesOf xs) [44]))) ∧ Below w.heap.size w w' := by
  obtain ⟨h1, h2, h3, h4, h5⟩ := h
  rcases h5 with h5 | ⟨b, o, rfl, hlt, hc⟩
  · subst h5
    obtain rfl := List.length_eq_zero_iff.1 h1
    exact (Try.strings_Join_none a c _ w).mono fun e w' ⟨he, hw⟩ => ⟨he, hw ▸ Below.refl _ _⟩
  · subst h1
    have hj := join_length (bytesOf xs)
    rw [bytesOf_length, bytesOf_sum] at hj
    refine Try.strings_Join b o c xs ⟨#[44]⟩ w (fun j x hx => ?_) hlt (by omega) h2 (Nat.le_trans hj hb)
    have hj : j < xs.length := by
      rcases Nat.lt_or_ge j xs.length with h | h
      · exact h
      · rw [List.getElem?_eq_none h] at hx; cases hx
    rw [hc j hj, List.getD_eq_getElem?_getD, hx]
    rfl

theorem repeat_eq (n : Nat) : Lib.repeatL [93] n = List.replicate n 93 := by
  induction n with
  | zero => rfl
  | succ n ih => rw [Lib.repeatL, ih]; rfl
theorem repeat_any (n : Nat) (w : World) (hn : n ≤ 140737488355328) :
    Calls Try.prog 11 #[.string ⟨#[93]⟩, .int .i64 n] w fun e w' => e = .returned (.string (txt (List.replicate n 93))) ∧ Below w.heap.size w w' := by
  rw [← repeat_eq]
  exact Try.strings_Repeat ⟨#[93]⟩ n w (by omega) (by show 1 * n ≤ _; omega)

/-- How the world stands behind each write: the builder holds l; nothing that was there has turned; the boxed receiver's second cell is v1. -/
def St (w wr : World) (v1 : Value) (l : List UInt8) : Prop :=
  Lib.IsBuilder 31 5 (w.heap.size + 1) (w.heap.size + 1) (Lib.byteCells l) wr ∧ Below w.heap.size w wr ∧ wr.cell? ⟨w.heap.size, 1, none⟩ = some v1 ∧ w.heap.size + 1 < wr.heap.size

theorem St.start (w w1 : World) (v0 v1 : Value)
    (hb : Below ((w.alloc (.cells #[v0, v1] 26)).alloc (.cells #[.pointer none, .slice none 0 0] 31)).heap.size ((w.alloc (.cells #[v0, v1] 26)).alloc (.cells #[.pointer none, .slice none 0 0] 31)) w1) :
    St w w1 v1 [] := by
  have hf := Lib.fresh_isBuilder 31 5 (w.alloc (.cells #[v0, v1] 26))
  rw [show (w.alloc (.cells #[v0, v1] 26)).heap.size = w.heap.size + 1 by simp] at hf
  have hs := hb.size
  simp at hs
  refine ⟨isBuilder_below hf hb, ?_, ?_, by omega⟩
  · exact (((Below.refl _ _).alloc (Nat.le_refl _) _).alloc (by simp) _).trans (hb.mono (by simp; omega))
  · rw [hb.cell (p := ⟨w.heap.size, 1, none⟩) (by simp; omega)]
    have e : ((w.alloc (.cells #[v0, v1] 26)).alloc (.cells #[.pointer none, .slice none 0 0] 31)).heap[w.heap.size]? = some (.cells #[v0, v1] 26 (0, 0)) := by
      show ((w.heap.push _).push _)[w.heap.size]? = _
      rw [Array.getElem?_push, if_neg (by simp), Array.getElem?_push, if_pos rfl]
    rw [Lib.cell_of_heap e]
    rfl

theorem St.wrote {w wr w2 : World} {v1 : Value} {l l2 : List UInt8} (h : St w wr v1 l) (hI : Lib.IsBuilder 31 5 (w.heap.size + 1) (w.heap.size + 1) (Lib.byteCells l2) w2) (hB : Below (w.heap.size + 1) wr w2) : St w w2 v1 l2 :=
  ⟨hI, h.2.1.trans (hB.mono (by omega)), by rw [hB.cell (p := ⟨w.heap.size, 1, none⟩) (by simp)]; exact h.2.2.1, Nat.lt_of_lt_of_le h.2.2.2 hB.size⟩

theorem St.kept {w wr w2 : World} {v1 : Value} {l : List UInt8} (h : St w wr v1 l) (hB : Below wr.heap.size wr w2) : St w w2 v1 l :=
  ⟨isBuilder_below h.1 hB, h.2.1.trans (hB.mono (by have := h.2.2.2; omega)), by rw [hB.cell (p := ⟨w.heap.size, 1, none⟩) (by have := h.2.2.2; simp; omega)]; exact h.2.2.1, Nat.lt_of_lt_of_le h.2.2.2 hB.size⟩

theorem sizes_take (ys : List ByteArray) (k : Nat) : sizes (ys.take k) ≤ sizes ys := by
  have : sizes ys = sizes (ys.take k) + sizes (ys.drop k) := by
    unfold sizes
    rw [← List.sum_append, ← List.map_append, List.take_append_drop]
  omega
theorem opts_take_succ (ys : List ByteArray) (k : Nat) (hk : k < ys.length) : opts (bytesOf (ys.take (k + 1))) = opts (bytesOf (ys.take k)) ++ ([91, 44] ++ (ys.getD k ByteArray.empty).data.toList) := by
  rw [List.take_succ_eq_append_getElem hk, List.getD_eq_getElem?_getD, List.getElem?_eq_getElem hk, show bytesOf (ys.take k ++ [ys[k]]) = bytesOf (ys.take k) ++ [ys[k].data.toList] by simp only [bytesOf, List.map_append]; rfl, opts_append]
  simp [opts]
theorem sofar_length (xs ys : List ByteArray) (k : Nat) (hk : k ≤ ys.length) : (Lib.join (bytesOf xs) [44] ++ opts (bytesOf (ys.take k))).length ≤ xs.length + sizes xs + 2 * k + sizes ys := by
  have h1 := join_length (bytesOf xs)
  have h2 := opts_length (bytesOf (ys.take k))
  rw [bytesOf_length, bytesOf_sum] at h1 h2
  have h3 := sizes_take ys k
  rw [List.length_append, h2, List.length_take]
  omega
theorem data_size (s : ByteArray) : ((⟨#[91, 44]⟩ : ByteArray) ++ s).size = s.size + 2 := by rw [ByteArray.size_append]; show 2 + _ = _; omega
theorem data_mk (s : ByteArray) : ((⟨#[91, 44]⟩ : ByteArray) ++ s).data.toList = [91, 44] ++ s.data.toList := by simp

set_option maxHeartbeats 1000000 in
theorem string_any (a0 : Option Addr) (n0 c0 : Nat) (xs : List ByteArray) (a1 : Option Addr) (n1 c1 : Nat) (ys : List ByteArray) (w : World) (h0 : Strs w a0 n0 c0 xs) (h1 : Strs w a1 n1 c1 ys)
    (hb : n0 + sizes xs + 3 * n1 + sizes ys ≤ 1099511627776) :
    Calls Try.prog 7 #[.agg #[.slice a0 n0 c0, .slice a1 n1 c1]] w fun e w' => e = .returned (.string (txt (render (bytesOf xs) (bytesOf ys)))) ∧ Below w.heap.size w w' := by
  have H0 : Hid (Strs w a0 n0 c0 xs) := h0
  have H1 : Hid (Strs w a1 n1 c1 ys) := h1
  have b1 : n1 ≤ 1099511627776 := by omega
  have HB : Hid (n0 + sizes xs + 3 * n1 + sizes ys ≤ 1099511627776) := hb
  clear h0 h1 hb
  go_enter Try.func7, Try.ntmps7
  go_wp2_with fail
  refine (join_any a0 n0 c0 xs _ (by exact H0.out.below (((Below.refl _ _).alloc (Nat.le_refl _) _).alloc (by simp) _)) (by have := HB.out; omega)).mono ?_
  rintro e w1 ⟨rfl, hb1⟩
  have S1 : Hid (St w w1 (.slice a1 n1 c1) []) := St.start w w1 (.slice a0 n0 c0) (.slice a1 n1 c1) hb1
  clear hb1
  have HJ : Hid ((txt (Lib.join (bytesOf xs) [44])).size ≤ n0 + sizes xs) := by
    have h1 := join_length (bytesOf xs)
    rw [bytesOf_length, bytesOf_sum, H0.out.1] at h1
    rw [txt_size]
    exact h1
  have HJ2 : Hid ((txt (Lib.join (bytesOf xs) [44])).data.toList = Lib.join (bytesOf xs) [44]) := txt_data _
  generalize txt (Lib.join (bytesOf xs) [44]) = js at HJ HJ2 ⊢
  go_wp2_with fail
  refine (write_any (w.heap.size + 1) (w.heap.size + 1) [] js _ (by exact S1.out.1) (by have := HJ.out; have := HB.out; simp; omega) (by have := S1.out.2.2.2; omega)).mono ?_
  rintro e w2 ⟨rfl, hI, hB⟩
  have S2 : Hid (St w w2 (.slice a1 n1 c1) (Lib.join (bytesOf xs) [44] ++ opts (bytesOf (ys.take 0)))) := by
    rw [List.nil_append, HJ2.out] at hI
    have := S1.out.wrote hI hB
    show St _ _ _ _
    rw [List.take_zero, show opts (bytesOf []) = [] from rfl, List.append_nil]
    exact this
  clear hI hB S1 HJ HJ2
  have hc := S2.out.2.2.1
  go_wp2_with fail
  clear hc
  go_loopw [13] (fun i wr => ∃ k : Nat, k ≤ n1 ∧ i = .int .i64 k ∧ Hid (St w wr (.slice a1 n1 c1) (Lib.join (bytesOf xs) [44] ++ opts (bytesOf (ys.take k))))) (fun i _ => n1 - (intOf i).toNat)
  case atStart => exact ⟨0, by omega, rfl, S2⟩
  case round =>
    clear S2
    obtain ⟨k, hk, rfl, S⟩ := hrel
    by_cases hlt : k < n1
    · obtain ⟨b, o, ha, hc, hs⟩ := (H1.out.below S.out.2.1).at k hlt
      have hsz : (ys.getD k ByteArray.empty).size ≤ 1099511627776 := by
        have h1 := sizes_take_succ ys k (by have := H1.out.1; omega)
        have h2 := sizes_take ys (k + 1)
        have := HB.out
        omega
      have HT : Hid (opts (bytesOf (ys.take (k + 1))) = opts (bytesOf (ys.take k)) ++ ([91, 44] ++ (ys.getD k ByteArray.empty).data.toList)) := opts_take_succ ys k (by have := H1.out.1; omega)
      have HL : Hid ((Lib.join (bytesOf xs) [44] ++ opts (bytesOf (ys.take k))).length ≤ n0 + sizes xs + 2 * k + sizes ys) := by
        have := sofar_length xs ys k (by have := H1.out.1; omega)
        rw [H0.out.1] at this
        exact this
      rw [ha]
      clear hs
      generalize ys.getD k ByteArray.empty = s at hc hsz HT
      have HC : Hid (wr.cell? ⟨b, o + k, none⟩ = some (.string s)) := hc
      go_wp2_with fail
      refine (write_any (w.heap.size + 1) (w.heap.size + 1) _ _ _ (by exact S.out.1) (by have h1 := HL.out; have h2 := HB.out; have h3 := data_size s; omega) (by have := S.out.2.2.2; omega)).mono ?_
      rintro e w2 ⟨rfl, hI, hB⟩
      have S2 : Hid (St w w2 (.slice a1 n1 c1) (Lib.join (bytesOf xs) [44] ++ opts (bytesOf (ys.take (k + 1))))) := by
        have := S.out.wrote hI hB
        show St _ _ _ _
        rw [HT.out, ← List.append_assoc, ← data_mk]
        exact this
      clear hI hB S hc HT HL HC
      go_wp2_with fail
      rw [ha] at S2
      exact ⟨⟨k + 1, by omega, by go_num, S2⟩, by simp [intOf]; omega⟩
    · have HJ : Hid (ys.take k = ys) := List.take_of_length_le (by have := H1.out.1; omega)
      rw [HJ.out] at S
      have hc := S.out.2.2.1
      go_wp2_with fail
      refine (repeat_any n1 _ (by omega)).mono ?_
      rintro e w2 ⟨rfl, hb1⟩
      have S2 := S.out.kept hb1
      have S2 : Hid (St w w2 (.slice a1 n1 c1) (Lib.join (bytesOf xs) [44] ++ opts (bytesOf ys))) := S2
      clear S hb1 hc
      have HL : Hid ((Lib.join (bytesOf xs) [44] ++ opts (bytesOf ys)).length ≤ n0 + sizes xs + 2 * n1 + sizes ys) := by
        have := sofar_length xs ys n1 (by have := H1.out.1; omega)
        rw [H0.out.1, List.take_of_length_le (by have := H1.out.1; omega)] at this
        exact this
      have HJ1 : Hid ((txt (List.replicate n1 93)).size = n1) := by rw [txt_size, List.length_replicate]; exact rfl
      have HJ2 : Hid ((txt (List.replicate n1 93)).data.toList = List.replicate n1 93) := txt_data _
      generalize txt (List.replicate n1 93) = js at HJ1 HJ2 ⊢
      go_wp2_with fail
      refine (write_any (w.heap.size + 1) (w.heap.size + 1) _ _ _ (by exact S2.out.1) (by have h1 := HL.out; have h2 := HB.out; have h3 := HJ1.out; omega) (by have := S2.out.2.2.2; omega)).mono ?_
      rintro e w3 ⟨rfl, hI, hB⟩
      have S3 : Hid (St w w3 (.slice a1 n1 c1) (render (bytesOf xs) (bytesOf ys))) := by
        have := S2.out.wrote hI hB
        show St _ _ _ _
        rw [render, bytesOf_length, H1.out.1, ← HJ2.out]
        exact this
      clear hI hB S2 HL HJ HJ1 HJ2
      go_wp2_with fail
      refine (Try.Builder_String_any (w.heap.size + 1) (w.heap.size + 1) (render (bytesOf xs) (bytesOf ys)) _ (by exact S3.out.1) (by have := S3.out.2.2.2; omega)).mono ?_
      rintro e w4 ⟨rfl, hB⟩
      have HE : Hid (Below w.heap.size w w4) := S3.out.2.1.trans (hB.mono (by omega))
      clear hB S3
      go_wp2_with fail
      go_ret
      exact ⟨rfl, HE.out⟩
end Go.Proofs.Qxb6628157a
