/-
  THE WALK OF THE LAW FnStringOptionalsNestAtAnyCut (4).
-/
import Derived.Test.Qxb6628157aCommon
import Derived.Deep.QuietTactic
import Derived.BigQuiet
namespace Go.Proofs.Qxb6628157a
open Go.ChangeShapes Go.WideShapes Go.ChangeAt Go.RowKit

theorem Strs.none (w : World) (a : Option Addr) (c : Nat) (hc : c ≤ maxLen) : Strs w a 0 c [] := ⟨rfl, Nat.zero_le _, hc, by simp, .inl rfl⟩

/-- What the law looks at, of the three texts: whole, head, tail; kn: the bytes that are kept, k: the cut. -/
structure Nests (wh hd tl : ByteArray) (kn k : Nat) : Prop where
  hd_size : hd.size = kn + k
  wh_size : wh.size = kn + tl.size + k
  hd_end : ∀ i (h : i < hd.size), kn ≤ i → hd[i] = 93
  keep : wh.extract 0 kn = hd.extract 0 kn
  mid : wh.extract kn (kn + tl.size) = tl
  wh_end : ∀ i (h : i < wh.size), kn + tl.size ≤ i → wh[i] = 93

theorem txt_get (l : List UInt8) (i : Nat) (h : i < (txt l).size) : (txt l)[i] = l[i]'(by rw [txt_size] at h; exact h) := rfl
theorem nests_of (A T : List UInt8) (k : Nat) : Nests (txt (A ++ T ++ List.replicate k 93)) (txt (A ++ List.replicate k 93)) (txt T) A.length k := by
  refine ⟨?_, ?_, ?_, ?_, ?_, ?_⟩
  · rw [txt_size]; simp
  · rw [txt_size, txt_size]; simp; omega
  · intro i h hi
    rw [txt_get, List.getElem_append_right hi, List.getElem_replicate]
  · apply ByteArray.ext
    simp [txt, ByteArray.data_extract]
  · rw [txt_size]
    apply ByteArray.ext
    simp [txt, ByteArray.data_extract]
  · intro i h hi
    rw [txt_size] at hi
    rw [txt_get, List.getElem_append_right (by simp; omega), List.getElem_replicate]

theorem nests_any (xs ys : List ByteArray) (k : Nat) (hk : k ≤ ys.length) :
    Nests (txt (render (bytesOf xs) (bytesOf ys))) (txt (render (bytesOf xs) (bytesOf (ys.take k)))) (txt (render (bytesOf []) (bytesOf (ys.drop k)))) (keepL (bytesOf xs) (bytesOf ys) k).length k := by
  have h1 := head_eq (bytesOf xs) (bytesOf ys) k (by rw [bytesOf_length]; exact hk)
  have h2 := whole_eq (bytesOf xs) (bytesOf ys) k (by rw [bytesOf_length]; exact hk)
  have e1 : (bytesOf ys).take k = bytesOf (ys.take k) := by simp [bytesOf]
  have e2 : (bytesOf ys).drop k = bytesOf (ys.drop k) := by simp [bytesOf]
  rw [e1] at h1
  rw [e2] at h2
  have := nests_of (keepL (bytesOf xs) (bytesOf ys) k) (render (bytesOf []) (bytesOf (ys.drop k))) k
  rw [h1, h2]
  exact this
theorem all_text (y : ByteArray) (ys : List ByteArray) : txt (render (bytesOf []) (bytesOf (y :: ys))) = (⟨#[91, 44]⟩ : ByteArray) ++ y ++ txt (render (bytesOf []) (bytesOf ys)) ++ ⟨#[93]⟩ := by
  have := all_eq y.data.toList (bytesOf ys)
  show txt (render [] (y.data.toList :: bytesOf ys)) = _
  rw [this, txt_append, txt_append, txt_append]
  rfl

theorem und22 : Try.prog.underlying 22 = some (.slice (Try.prog.elem 22)) := by kernel_rfl
theorem siz22 (w : World) : (sizeOf (Try.prog.elem 22)).run Try.prog w = .ok 1 w := by
  rw [show Try.prog.elem 22 = 9 by kernel_rfl]
  exact Try.sizeOf9 w
/-- 'optional[:k]': some address; its elements. -/
theorem cut_take (w : World) (a : Option Addr) (n c : Nat) (ys : List ByteArray) (h : Strs w a n c ys) (k : Nat) (hk : k ≤ n) :
    ∃ a', Strs w a' k c (ys.take k) ∧ (∀ wx : World, (Instr.slice 22 (.slice a n c) none (some (.int .i64 k)) none).run Try.prog wx = .ok (.slice a' k c) wx) := by
  have hc := h.2.1
  refine ⟨if c = 0 then a else a.map (·.add 0), ?_, fun wx => ?_⟩
  · have h' := h.take k hk
    by_cases hz : c = 0
    · rw [if_pos hz]; exact h'
    · rw [if_neg hz]
      cases a with
      | none => exact h'
      | some x => obtain ⟨b, o, s⟩ := x; exact h'
  · rw [run_slice_h (ht := und22) (h0 := by omega) (h2 := by omega), siz22]
    simp [Result.andThen, sliced]
/-- 'optional[k:]'. -/
theorem cut_drop (w : World) (a : Option Addr) (n c : Nat) (ys : List ByteArray) (h : Strs w a n c ys) (k : Nat) (hk : k ≤ n) :
    ∃ a', Strs w a' (n - k) (c - k) (ys.drop k) ∧ (∀ wx : World, (Instr.slice 22 (.slice a n c) (some (.int .i64 k)) none none).run Try.prog wx = .ok (.slice a' (n - k) (c - k)) wx) := by
  have hc := h.2.1
  refine ⟨if c = k then a else a.map (·.add (k * 1)), ?_, fun wx => ?_⟩
  · by_cases hz : n = k
    · have e : ys.drop k = [] := List.drop_of_length_le (by have := h.1; omega)
      rw [e, show n - k = 0 by omega]
      exact Strs.none w _ _ (by have := h.2.2.1; omega)
    · rw [if_neg (by omega)]
      rcases h.2.2.2.2 with h0 | ⟨b, o, ha, _, _⟩
      · omega
      · subst ha
        rw [Nat.mul_one, show (some (⟨b, o, none⟩ : Addr)).map (·.add k) = some ⟨b, o + k, none⟩ by rw [Option.map_some, add_plain]]
        exact h.drop k hk
  · rw [run_slice_l (ht := und22) (h0 := by omega) (h1 := by omega), siz22]
    simp [Result.andThen, sliced]
namespace fnStringOptionalsNestAtAnyCut
set_option maxHeartbeats 2000000 in
theorem walk (a0 : Option Addr) (n0 c0 : Nat) (xs : List ByteArray) (a1 : Option Addr) (n1 c1 : Nat) (ys : List ByteArray) (q : Int) (w : World) (h0 : Strs w a0 n0 c0 xs) (h1 : Strs w a1 n1 c1 ys) (_hq : (Lit.int .i64 q).wf = true) :
    Calls Try.prog 4 #[.slice a0 n0 c0, .slice a1 n1 c1, .int .i64 q] w fun e w' => e = .returned (.bool true) ∧ Below w.heap.size w w' := by
  have H0 : Hid (Strs w a0 n0 c0 xs) := h0
  have H1 : Hid (Strs w a1 n1 c1 ys) := h1
  clear h0 h1
  go_enter Try.func4, Try.ntmps4
  go_wp2_with fail
  refine (zzBytes8_any a0 n0 c0 xs a1 n1 c1 ys q _ H0.out H1.out).mono ?_
  rintro e w1 ⟨⟨b, rfl, hyes⟩, rfl⟩
  cases b with
  | false =>
    clear hyes
    go_wp2_with fail
    go_ret
    exact ⟨rfl, Below.refl _ _⟩
  | true =>
  have HB : Hid (n0 + sizes xs + n1 + sizes ys ≤ 1048576) := hyes rfl
  have bn0 : n0 ≤ 1048576 := by have := HB.out; omega
  have bn1 : n1 ≤ 1048576 := by have := HB.out; omega
  have E0 : Hid (xs.length = n0) := H0.out.1
  have E1 : Hid (ys.length = n1) := H1.out.1
  have M1 : Hid (c1 ≤ maxLen) := H1.out.2.2.1
  clear hyes
  go_wp2_with fail
  refine (sizeOver_any a0 n0 c0 xs a1 n1 c1 ys _ H0.out H1.out).mono ?_
  rintro e w2 ⟨⟨b, rfl, _⟩, rfl⟩
  cases b with
  | true =>
    go_wp2_with fail
    go_ret
    exact ⟨rfl, Below.refl _ _⟩
  | false =>
  have hc1 : n1 ≤ c1 := H1.out.2.1
  by_cases hk1 : q < 0
  · have hkk : n1 ≤ n1 := by omega
    obtain ⟨a2, T2, hs2⟩ := cut_take w2 a1 n1 c1 ys H1.out n1 (by omega)
    obtain ⟨a3, T3, hs3⟩ := cut_drop w2 a1 n1 c1 ys H1.out n1 (by omega)
    rw [Nat.sub_self] at T3; simp only [Nat.sub_self] at hs3
    have T2 : Hid (Strs w2 a2 n1 c1 (ys.take n1)) := T2
    have T3 : Hid (Strs w2 a3 0 (c1 - n1) (ys.drop n1)) := T3
    go_wp2_with fail
    refine (string_at a0 n0 c0 xs _ n1 c1 ys w2 _ (Below.refl _ _) H0.out H1.out (by have := HB.out; omega)).mono ?_
    rintro e w3 ⟨rfl, hb3⟩
    have B3 : Hid (Below w2.heap.size w2 w3) := hb3
    clear hb3
    go_wp2_with fail
    refine (string_at a0 n0 c0 xs a2 n1 c1 (ys.take n1) w2 _ B3.out H0.out T2.out (by have := HB.out; have := sizes_take ys n1; omega)).mono ?_
    rintro e w4 ⟨rfl, hb4⟩
    have B4 : Hid (Below w2.heap.size w2 w4) := hb4
    clear hb4 B3
    go_wp2_with fail
    refine (string_at none 0 0 [] a3 0 (c1 - n1) (ys.drop n1) w2 _ B4.out (Strs.nil _) T3.out (by have := HB.out; have := sizes_drop ys n1; rw [sizes_nil]; omega)).mono ?_
    rintro e w5 ⟨rfl, hb5⟩
    have B5 : Hid (Below w2.heap.size w2 w5) := hb5
    clear hb5 B4 hs2 hs3
    have N : Hid (Nests (txt (render (bytesOf xs) (bytesOf ys))) (txt (render (bytesOf xs) (bytesOf (ys.take n1)))) (txt (render (bytesOf []) (bytesOf (ys.drop n1)))) (keepL (bytesOf xs) (bytesOf ys) n1).length n1) := nests_any xs ys n1 (by have := E1.out; omega)
    have hwz : (txt (render (bytesOf xs) (bytesOf ys))).size ≤ 4194304 := txt_le _ _ _ (by have := HB.out; have := E0.out; have := E1.out; omega)
    generalize txt (render (bytesOf xs) (bytesOf ys)) = wh at N hwz ⊢
    generalize txt (render (bytesOf xs) (bytesOf (ys.take n1))) = hd at N ⊢
    generalize txt (render (bytesOf []) (bytesOf (ys.drop n1))) = tl at N ⊢
    generalize (keepL (bytesOf xs) (bytesOf ys) n1).length = kn at N
    have hsz : hd.size = kn + n1 := N.out.hd_size
    have wsz : wh.size = kn + tl.size + n1 := N.out.wh_size
    rw [wsz] at hwz
    go_wp2_with fail
    go_loop [11] (fun i => ∃ t : Nat, kn ≤ t ∧ t ≤ kn + n1 ∧ i = .int .i64 t) (fun i => kn + n1 - (intOf i).toNat)
    case atStart => exact ⟨kn, by omega, by omega, by go_num⟩
    case round =>
      obtain ⟨t, ht1, ht2, rfl⟩ := hrel
      by_cases hlt : t < kn + n1
      · have h93 := N.out.hd_end t (by omega) ht1
        go_wp2_with fail
        go_round
        case rel => exact ⟨t + 1, by omega, by omega, by go_num⟩
        case measure => simp [intOf]; omega
      · skip
        have hkeep := N.out.keep
        have hle : kn ≤ kn + tl.size + n1 := by omega
        have hle2 : kn ≤ kn + n1 := by omega
        go_wp2_with fail
        go_quiet (fail)
        have hmid := N.out.mid
        go_wp2_with fail
        clear hmid hkeep hle hle2 hlt ht1 ht2
        have B6 : Hid (Below w2.heap.size w2 (w5.drewN nq)) := below_drewN B5.out nq
        generalize w5.drewN nq = w6 at B6 ⊢
        go_loop [12] (fun i => ∃ t : Nat, kn + tl.size ≤ t ∧ t ≤ kn + tl.size + n1 ∧ i = .int .i64 t) (fun i => kn + tl.size + n1 - (intOf i).toNat)
        case atStart => exact ⟨kn + tl.size, by omega, by omega, by go_num⟩
        case round =>
          obtain ⟨t2, ht1, ht2, rfl⟩ := hrel
          by_cases hlt : t2 < kn + tl.size + n1
          · have h93 := N.out.wh_end t2 (by omega) ht1
            go_wp2_with fail
            go_round
            case rel => exact ⟨t2 + 1, by omega, by omega, by go_num⟩
            case measure => simp [intOf]; omega
          by_cases hpos : n1 = 0
          · have hd0 : decide ((0 : Int) < (n1 : Int)) = false := decide_eq_false (by omega)
            go_wp2_with fail
            go_ret
            exact ⟨rfl, B6.out⟩
          have hp0 : (0 : Int) < (n1 : Int) := by omega
          obtain ⟨y0, yr, Eys⟩ : ∃ y0 yr, ys = y0 :: yr := List.exists_cons_of_ne_nil (List.ne_nil_of_length_pos (by have := E1.out; omega))
          have EY : Hid (ys = y0 :: yr) := Eys
          clear Eys
          go_wp2_with fail
          refine (string_at none 0 0 [] a1 n1 c1 ys w2 _ B6.out (Strs.nil _) H1.out (by have := HB.out; rw [sizes_nil]; omega)).mono ?_
          rintro e w7 ⟨rfl, hb7⟩
          have B7 : Hid (Below w2.heap.size w2 w7) := hb7
          clear hb7 B6
          obtain ⟨a4, T4, hs4⟩ := cut_drop w2 a1 n1 c1 ys H1.out 1 (by omega)
          have T4 : Hid (Strs w2 a4 (n1 - 1) (c1 - 1) (ys.drop 1)) := T4
          have hs4 : ∀ wx : World, (Instr.slice 22 (.slice a1 n1 c1) (some (.int .i64 1)) none none).run Try.prog wx = .ok (.slice a4 (n1 - 1) (c1 - 1)) wx := hs4
          go_wp2_with fail
          refine (string_at none 0 0 [] a4 (n1 - 1) (c1 - 1) (ys.drop 1) w2 _ B7.out (Strs.nil _) T4.out (by have := HB.out; have := sizes_drop ys 1; rw [sizes_nil]; omega)).mono ?_
          rintro e w8 ⟨rfl, hb8⟩
          have B8 : Hid (Below w2.heap.size w2 w8) := hb8
          clear hb8 B7 hs4
          obtain ⟨b, o, ha, hc, hs⟩ := (H1.out.below B8.out).at 0 (by omega)
          rw [ha]
          have hy : ys.getD 0 ByteArray.empty = y0 := by rw [EY.out]; rfl
          rw [hy] at hc hs
          have hc0 : w8.cell? ⟨b, o, none⟩ = some (.string y0) := by simpa using hc
          clear hc hy ha
          have hy0 : y0.size ≤ 1048576 := by
            have h1 := HB.out
            have h2 : sizes ys = y0.size + sizes yr := by rw [EY.out]; simp [sizes]
            omega
          have hr : (txt (render (bytesOf []) (bytesOf (ys.drop 1)))).size ≤ 4194304 := txt_le _ _ _ (by have := HB.out; have := E1.out; have := sizes_drop ys 1; rw [sizes_nil, List.length_drop, List.length_nil]; omega)
          have EA : txt (render (bytesOf []) (bytesOf ys)) = (⟨#[91, 44]⟩ : ByteArray) ++ y0 ++ txt (render (bytesOf []) (bytesOf (ys.drop 1))) ++ ⟨#[93]⟩ := by
            rw [EY.out]
            exact all_text y0 yr
          rw [EA]
          clear EA
          generalize txt (render (bytesOf []) (bytesOf (ys.drop 1))) = rr at hr ⊢
          have h91 : (⟨#[91, 44]⟩ : ByteArray).size = 2 := rfl
          have h93 : (⟨#[93]⟩ : ByteArray).size = 1 := rfl
          clear hsz wsz hwz N T2 T3 H0 H1 T4
          go_wp2_with fail
          go_ret
          exact ⟨rfl, B8.out⟩
  by_cases hk2 : (n1 : Int) < q
  · have hkk : n1 ≤ n1 := by omega
    obtain ⟨a2, T2, hs2⟩ := cut_take w2 a1 n1 c1 ys H1.out n1 (by omega)
    obtain ⟨a3, T3, hs3⟩ := cut_drop w2 a1 n1 c1 ys H1.out n1 (by omega)
    rw [Nat.sub_self] at T3; simp only [Nat.sub_self] at hs3
    have T2 : Hid (Strs w2 a2 n1 c1 (ys.take n1)) := T2
    have T3 : Hid (Strs w2 a3 0 (c1 - n1) (ys.drop n1)) := T3
    go_wp2_with fail
    refine (string_at a0 n0 c0 xs _ n1 c1 ys w2 _ (Below.refl _ _) H0.out H1.out (by have := HB.out; omega)).mono ?_
    rintro e w3 ⟨rfl, hb3⟩
    have B3 : Hid (Below w2.heap.size w2 w3) := hb3
    clear hb3
    go_wp2_with fail
    refine (string_at a0 n0 c0 xs a2 n1 c1 (ys.take n1) w2 _ B3.out H0.out T2.out (by have := HB.out; have := sizes_take ys n1; omega)).mono ?_
    rintro e w4 ⟨rfl, hb4⟩
    have B4 : Hid (Below w2.heap.size w2 w4) := hb4
    clear hb4 B3
    go_wp2_with fail
    refine (string_at none 0 0 [] a3 0 (c1 - n1) (ys.drop n1) w2 _ B4.out (Strs.nil _) T3.out (by have := HB.out; have := sizes_drop ys n1; rw [sizes_nil]; omega)).mono ?_
    rintro e w5 ⟨rfl, hb5⟩
    have B5 : Hid (Below w2.heap.size w2 w5) := hb5
    clear hb5 B4 hs2 hs3
    have N : Hid (Nests (txt (render (bytesOf xs) (bytesOf ys))) (txt (render (bytesOf xs) (bytesOf (ys.take n1)))) (txt (render (bytesOf []) (bytesOf (ys.drop n1)))) (keepL (bytesOf xs) (bytesOf ys) n1).length n1) := nests_any xs ys n1 (by have := E1.out; omega)
    have hwz : (txt (render (bytesOf xs) (bytesOf ys))).size ≤ 4194304 := txt_le _ _ _ (by have := HB.out; have := E0.out; have := E1.out; omega)
    generalize txt (render (bytesOf xs) (bytesOf ys)) = wh at N hwz ⊢
    generalize txt (render (bytesOf xs) (bytesOf (ys.take n1))) = hd at N ⊢
    generalize txt (render (bytesOf []) (bytesOf (ys.drop n1))) = tl at N ⊢
    generalize (keepL (bytesOf xs) (bytesOf ys) n1).length = kn at N
    have hsz : hd.size = kn + n1 := N.out.hd_size
    have wsz : wh.size = kn + tl.size + n1 := N.out.wh_size
    rw [wsz] at hwz
    go_wp2_with fail
    go_loop [11] (fun i => ∃ t : Nat, kn ≤ t ∧ t ≤ kn + n1 ∧ i = .int .i64 t) (fun i => kn + n1 - (intOf i).toNat)
    case atStart => exact ⟨kn, by omega, by omega, by go_num⟩
    case round =>
      obtain ⟨t, ht1, ht2, rfl⟩ := hrel
      by_cases hlt : t < kn + n1
      · have h93 := N.out.hd_end t (by omega) ht1
        go_wp2_with fail
        go_round
        case rel => exact ⟨t + 1, by omega, by omega, by go_num⟩
        case measure => simp [intOf]; omega
      · skip
        have hkeep := N.out.keep
        have hle : kn ≤ kn + tl.size + n1 := by omega
        have hle2 : kn ≤ kn + n1 := by omega
        go_wp2_with fail
        go_quiet (fail)
        have hmid := N.out.mid
        go_wp2_with fail
        clear hmid hkeep hle hle2 hlt ht1 ht2
        have B6 : Hid (Below w2.heap.size w2 (w5.drewN nq)) := below_drewN B5.out nq
        generalize w5.drewN nq = w6 at B6 ⊢
        go_loop [12] (fun i => ∃ t : Nat, kn + tl.size ≤ t ∧ t ≤ kn + tl.size + n1 ∧ i = .int .i64 t) (fun i => kn + tl.size + n1 - (intOf i).toNat)
        case atStart => exact ⟨kn + tl.size, by omega, by omega, by go_num⟩
        case round =>
          obtain ⟨t2, ht1, ht2, rfl⟩ := hrel
          by_cases hlt : t2 < kn + tl.size + n1
          · have h93 := N.out.wh_end t2 (by omega) ht1
            go_wp2_with fail
            go_round
            case rel => exact ⟨t2 + 1, by omega, by omega, by go_num⟩
            case measure => simp [intOf]; omega
          by_cases hpos : n1 = 0
          · have hd0 : decide ((0 : Int) < (n1 : Int)) = false := decide_eq_false (by omega)
            go_wp2_with fail
            go_ret
            exact ⟨rfl, B6.out⟩
          have hp0 : (0 : Int) < (n1 : Int) := by omega
          obtain ⟨y0, yr, Eys⟩ : ∃ y0 yr, ys = y0 :: yr := List.exists_cons_of_ne_nil (List.ne_nil_of_length_pos (by have := E1.out; omega))
          have EY : Hid (ys = y0 :: yr) := Eys
          clear Eys
          go_wp2_with fail
          refine (string_at none 0 0 [] a1 n1 c1 ys w2 _ B6.out (Strs.nil _) H1.out (by have := HB.out; rw [sizes_nil]; omega)).mono ?_
          rintro e w7 ⟨rfl, hb7⟩
          have B7 : Hid (Below w2.heap.size w2 w7) := hb7
          clear hb7 B6
          obtain ⟨a4, T4, hs4⟩ := cut_drop w2 a1 n1 c1 ys H1.out 1 (by omega)
          have T4 : Hid (Strs w2 a4 (n1 - 1) (c1 - 1) (ys.drop 1)) := T4
          have hs4 : ∀ wx : World, (Instr.slice 22 (.slice a1 n1 c1) (some (.int .i64 1)) none none).run Try.prog wx = .ok (.slice a4 (n1 - 1) (c1 - 1)) wx := hs4
          go_wp2_with fail
          refine (string_at none 0 0 [] a4 (n1 - 1) (c1 - 1) (ys.drop 1) w2 _ B7.out (Strs.nil _) T4.out (by have := HB.out; have := sizes_drop ys 1; rw [sizes_nil]; omega)).mono ?_
          rintro e w8 ⟨rfl, hb8⟩
          have B8 : Hid (Below w2.heap.size w2 w8) := hb8
          clear hb8 B7 hs4
          obtain ⟨b, o, ha, hc, hs⟩ := (H1.out.below B8.out).at 0 (by omega)
          rw [ha]
          have hy : ys.getD 0 ByteArray.empty = y0 := by rw [EY.out]; rfl
          rw [hy] at hc hs
          have hc0 : w8.cell? ⟨b, o, none⟩ = some (.string y0) := by simpa using hc
          clear hc hy ha
          have hy0 : y0.size ≤ 1048576 := by
            have h1 := HB.out
            have h2 : sizes ys = y0.size + sizes yr := by rw [EY.out]; simp [sizes]
            omega
          have hr : (txt (render (bytesOf []) (bytesOf (ys.drop 1)))).size ≤ 4194304 := txt_le _ _ _ (by have := HB.out; have := E1.out; have := sizes_drop ys 1; rw [sizes_nil, List.length_drop, List.length_nil]; omega)
          have EA : txt (render (bytesOf []) (bytesOf ys)) = (⟨#[91, 44]⟩ : ByteArray) ++ y0 ++ txt (render (bytesOf []) (bytesOf (ys.drop 1))) ++ ⟨#[93]⟩ := by
            rw [EY.out]
            exact all_text y0 yr
          rw [EA]
          clear EA
          generalize txt (render (bytesOf []) (bytesOf (ys.drop 1))) = rr at hr ⊢
          have h91 : (⟨#[91, 44]⟩ : ByteArray).size = 2 := rfl
          have h93 : (⟨#[93]⟩ : ByteArray).size = 1 := rfl
          clear hsz wsz hwz N T2 T3 H0 H1 T4
          go_wp2_with fail
          go_ret
          exact ⟨rfl, B8.out⟩
  obtain ⟨kk, rfl⟩ := Int.eq_ofNat_of_zero_le (show 0 ≤ q by omega)
  have hkk : kk ≤ n1 := by omega
  obtain ⟨a2, T2, hs2⟩ := cut_take w2 a1 n1 c1 ys H1.out kk (by omega)
  obtain ⟨a3, T3, hs3⟩ := cut_drop w2 a1 n1 c1 ys H1.out kk (by omega)
  skip
  have T2 : Hid (Strs w2 a2 kk c1 (ys.take kk)) := T2
  have T3 : Hid (Strs w2 a3 (n1 - kk) (c1 - kk) (ys.drop kk)) := T3
  go_wp2_with fail
  refine (string_at a0 n0 c0 xs _ n1 c1 ys w2 _ (Below.refl _ _) H0.out H1.out (by have := HB.out; omega)).mono ?_
  rintro e w3 ⟨rfl, hb3⟩
  have B3 : Hid (Below w2.heap.size w2 w3) := hb3
  clear hb3
  go_wp2_with fail
  refine (string_at a0 n0 c0 xs a2 kk c1 (ys.take kk) w2 _ B3.out H0.out T2.out (by have := HB.out; have := sizes_take ys kk; omega)).mono ?_
  rintro e w4 ⟨rfl, hb4⟩
  have B4 : Hid (Below w2.heap.size w2 w4) := hb4
  clear hb4 B3
  go_wp2_with fail
  refine (string_at none 0 0 [] a3 (n1 - kk) (c1 - kk) (ys.drop kk) w2 _ B4.out (Strs.nil _) T3.out (by have := HB.out; have := sizes_drop ys kk; rw [sizes_nil]; omega)).mono ?_
  rintro e w5 ⟨rfl, hb5⟩
  have B5 : Hid (Below w2.heap.size w2 w5) := hb5
  clear hb5 B4 hs2 hs3
  have N : Hid (Nests (txt (render (bytesOf xs) (bytesOf ys))) (txt (render (bytesOf xs) (bytesOf (ys.take kk)))) (txt (render (bytesOf []) (bytesOf (ys.drop kk)))) (keepL (bytesOf xs) (bytesOf ys) kk).length kk) := nests_any xs ys kk (by have := E1.out; omega)
  have hwz : (txt (render (bytesOf xs) (bytesOf ys))).size ≤ 4194304 := txt_le _ _ _ (by have := HB.out; have := E0.out; have := E1.out; omega)
  generalize txt (render (bytesOf xs) (bytesOf ys)) = wh at N hwz ⊢
  generalize txt (render (bytesOf xs) (bytesOf (ys.take kk))) = hd at N ⊢
  generalize txt (render (bytesOf []) (bytesOf (ys.drop kk))) = tl at N ⊢
  generalize (keepL (bytesOf xs) (bytesOf ys) kk).length = kn at N
  have hsz : hd.size = kn + kk := N.out.hd_size
  have wsz : wh.size = kn + tl.size + kk := N.out.wh_size
  rw [wsz] at hwz
  go_wp2_with fail
  go_loop [11] (fun i => ∃ t : Nat, kn ≤ t ∧ t ≤ kn + kk ∧ i = .int .i64 t) (fun i => kn + kk - (intOf i).toNat)
  case atStart => exact ⟨kn, by omega, by omega, by go_num⟩
  case round =>
    obtain ⟨t, ht1, ht2, rfl⟩ := hrel
    by_cases hlt : t < kn + kk
    · have h93 := N.out.hd_end t (by omega) ht1
      go_wp2_with fail
      go_round
      case rel => exact ⟨t + 1, by omega, by omega, by go_num⟩
      case measure => simp [intOf]; omega
    · skip
      have hkeep := N.out.keep
      have hle : kn ≤ kn + tl.size + kk := by omega
      have hle2 : kn ≤ kn + kk := by omega
      go_wp2_with fail
      go_quiet (fail)
      have hmid := N.out.mid
      go_wp2_with fail
      clear hmid hkeep hle hle2 hlt ht1 ht2
      have B6 : Hid (Below w2.heap.size w2 (w5.drewN nq)) := below_drewN B5.out nq
      generalize w5.drewN nq = w6 at B6 ⊢
      go_loop [12] (fun i => ∃ t : Nat, kn + tl.size ≤ t ∧ t ≤ kn + tl.size + kk ∧ i = .int .i64 t) (fun i => kn + tl.size + kk - (intOf i).toNat)
      case atStart => exact ⟨kn + tl.size, by omega, by omega, by go_num⟩
      case round =>
        obtain ⟨t2, ht1, ht2, rfl⟩ := hrel
        by_cases hlt : t2 < kn + tl.size + kk
        · have h93 := N.out.wh_end t2 (by omega) ht1
          go_wp2_with fail
          go_round
          case rel => exact ⟨t2 + 1, by omega, by omega, by go_num⟩
          case measure => simp [intOf]; omega
        by_cases hpos : n1 = 0
        · have hd0 : decide ((0 : Int) < (n1 : Int)) = false := decide_eq_false (by omega)
          go_wp2_with fail
          go_ret
          exact ⟨rfl, B6.out⟩
        have hp0 : (0 : Int) < (n1 : Int) := by omega
        obtain ⟨y0, yr, Eys⟩ : ∃ y0 yr, ys = y0 :: yr := List.exists_cons_of_ne_nil (List.ne_nil_of_length_pos (by have := E1.out; omega))
        have EY : Hid (ys = y0 :: yr) := Eys
        clear Eys
        go_wp2_with fail
        refine (string_at none 0 0 [] a1 n1 c1 ys w2 _ B6.out (Strs.nil _) H1.out (by have := HB.out; rw [sizes_nil]; omega)).mono ?_
        rintro e w7 ⟨rfl, hb7⟩
        have B7 : Hid (Below w2.heap.size w2 w7) := hb7
        clear hb7 B6
        obtain ⟨a4, T4, hs4⟩ := cut_drop w2 a1 n1 c1 ys H1.out 1 (by omega)
        have T4 : Hid (Strs w2 a4 (n1 - 1) (c1 - 1) (ys.drop 1)) := T4
        have hs4 : ∀ wx : World, (Instr.slice 22 (.slice a1 n1 c1) (some (.int .i64 1)) none none).run Try.prog wx = .ok (.slice a4 (n1 - 1) (c1 - 1)) wx := hs4
        go_wp2_with fail
        refine (string_at none 0 0 [] a4 (n1 - 1) (c1 - 1) (ys.drop 1) w2 _ B7.out (Strs.nil _) T4.out (by have := HB.out; have := sizes_drop ys 1; rw [sizes_nil]; omega)).mono ?_
        rintro e w8 ⟨rfl, hb8⟩
        have B8 : Hid (Below w2.heap.size w2 w8) := hb8
        clear hb8 B7 hs4
        obtain ⟨b, o, ha, hc, hs⟩ := (H1.out.below B8.out).at 0 (by omega)
        rw [ha]
        have hy : ys.getD 0 ByteArray.empty = y0 := by rw [EY.out]; rfl
        rw [hy] at hc hs
        have hc0 : w8.cell? ⟨b, o, none⟩ = some (.string y0) := by simpa using hc
        clear hc hy ha
        have hy0 : y0.size ≤ 1048576 := by
          have h1 := HB.out
          have h2 : sizes ys = y0.size + sizes yr := by rw [EY.out]; simp [sizes]
          omega
        have hr : (txt (render (bytesOf []) (bytesOf (ys.drop 1)))).size ≤ 4194304 := txt_le _ _ _ (by have := HB.out; have := E1.out; have := sizes_drop ys 1; rw [sizes_nil, List.length_drop, List.length_nil]; omega)
        have EA : txt (render (bytesOf []) (bytesOf ys)) = (⟨#[91, 44]⟩ : ByteArray) ++ y0 ++ txt (render (bytesOf []) (bytesOf (ys.drop 1))) ++ ⟨#[93]⟩ := by
          rw [EY.out]
          exact all_text y0 yr
        rw [EA]
        clear EA
        generalize txt (render (bytesOf []) (bytesOf (ys.drop 1))) = rr at hr ⊢
        have h91 : (⟨#[91, 44]⟩ : ByteArray).size = 2 := rfl
        have h93 : (⟨#[93]⟩ : ByteArray).size = 1 := rfl
        clear hsz wsz hwz N T2 T3 H0 H1 T4
        go_wp2_with fail
        go_ret
        exact ⟨rfl, B8.out⟩
end fnStringOptionalsNestAtAnyCut
end Go.Proofs.Qxb6628157a
