/-
  THE CONTRACTS OF Met (5) AND metConverse (7), AND THE WALK OF THE LAW FnMetConverseTotalAndRefused (4).
-/
import Derived.Test.Qxb6628210aRows
import Derived.Test.Qxb6628210aPlain
import Derived.WalkKit
import Derived.ProofKit
import Derived.OpenShut
import Derived.ShutString
import Derived.WalkLawsBesides
namespace Go.Proofs.Qxb6628210a
open Go.ChangeShapes Go.WideShapes Go.ChangeAt Go.RowKit

/-- What Met answers: the comparison's bytes; how the value stands to the number. -/
def metL (l : List UInt8) (o : Option Ordering) : Bool :=
  if (l == [60]) = true then o == some .lt
  else if (l == [60, 61]) = true then (o == some .lt || o == some .eq)
  else if (l == [62]) = true then o == some .gt
  else if (l == [62, 61]) = true then (o == some .gt || o == some .eq)
  else if (l == [61, 61]) = true then o == some .eq
  else if (l == [33, 61]) = true then o != some .eq
  else false
def convS (c : ByteArray) : ByteArray :=
  if (c.toList == [60]) = true then ⟨#[62]⟩
  else if (c.toList == [60, 61]) = true then ⟨#[62, 61]⟩
  else if (c.toList == [62]) = true then ⟨#[60]⟩
  else if (c.toList == [62, 61]) = true then ⟨#[60, 61]⟩
  else if (c.toList == [61, 61]) = true then ⟨#[61, 61]⟩
  else if (c.toList == [33, 61]) = true then ⟨#[33, 61]⟩
  else c
def knownL (l : List UInt8) : Bool := l == [60] || l == [60, 61] || l == [62] || l == [62, 61] || l == [61, 61] || l == [33, 61]

theorem ret_bool {a b : Bool} (h : a = b) : Ending.returned (.bool a) = .returned (.bool b) := by rw [h]
theorem ret_pair {a b : Bool} {s t : ByteArray} (h : a = b) (k : s = t) : Ending.returned (.tuple #[.string s, .bool a]) = .returned (.tuple #[.string t, .bool b]) := by rw [h, k]

set_option maxHeartbeats 1000000 in
theorem met_any (c t : ByteArray) (n v : Nat) (w : World) :
    Calls Try.prog 5 #[.agg #[.string c, .float .f64 n, .string t], .float .f64 v] w fun e w' => e = .returned (.bool (metL c.toList (ord v n))) ∧ Grown w w' := by
  go_enter Try.func5, Try.ntmps5
  go_wp2
  all_goals
    go_ret
    refine ⟨ret_bool ?_, by repeat (first | exact Grown.refl _ | apply Grown.drew | apply Grown.alloc)⟩
    simp [metL, *]

set_option maxHeartbeats 1000000 in
theorem conv_any (c : ByteArray) (w : World) :
    Calls Try.prog 7 #[.string c] w fun e w' => e = .returned (.tuple #[.string (convS c), .bool (knownL c.toList)]) ∧ w' = w := by
  go_enter Try.func7, Try.ntmps7
  go_wp2
  all_goals
    go_ret2
    refine ⟨ret_pair ?_ ?_, rfl⟩
    · simp [knownL, *]
    · simp [convS, *]

theorem known_of {l : List UInt8} (h : knownL l = true) : l = [60] ∨ l = [60, 61] ∨ l = [62] ∨ l = [62, 61] ∨ l = [61, 61] ∨ l = [33, 61] := by
  simp [knownL] at h
  rcases h with ((((h | h) | h) | h) | h) | h <;> simp [h]
theorem unknown_of {l : List UInt8} (h : knownL l = false) : (l == [60]) = false ∧ (l == [60, 61]) = false ∧ (l == [62]) = false ∧ (l == [62, 61]) = false ∧ (l == [61, 61]) = false ∧ (l == [33, 61]) = false := by
  simp only [knownL, Bool.or_eq_false_iff] at h
  obtain ⟨⟨⟨⟨⟨h1, h2⟩, h3⟩, h4⟩, h5⟩, h6⟩ := h
  exact ⟨h1, h2, h3, h4, h5, h6⟩
theorem met_conv (c : ByteArray) (o : Option Ordering) (h : knownL c.toList = true) : metL (convS c).toList (o.map Ordering.swap) = metL c.toList o := by
  have e1 : (⟨#[60]⟩ : ByteArray).toList = [60] := (ByteArray.toList_eq _).trans rfl
  have e2 : (⟨#[60, 61]⟩ : ByteArray).toList = [60, 61] := (ByteArray.toList_eq _).trans rfl
  have e3 : (⟨#[62]⟩ : ByteArray).toList = [62] := (ByteArray.toList_eq _).trans rfl
  have e4 : (⟨#[62, 61]⟩ : ByteArray).toList = [62, 61] := (ByteArray.toList_eq _).trans rfl
  have e5 : (⟨#[61, 61]⟩ : ByteArray).toList = [61, 61] := (ByteArray.toList_eq _).trans rfl
  have e6 : (⟨#[33, 61]⟩ : ByteArray).toList = [33, 61] := (ByteArray.toList_eq _).trans rfl
  unfold convS
  rcases known_of h with h | h | h | h | h | h <;> rw [h] <;> simp [e1, e2, e3, e4, e5, e6, metL] <;> (rcases o with _ | (_ | _ | _)) <;> rfl
theorem met_unknown (c : ByteArray) (o : Option Ordering) (h : knownL c.toList = false) : metL c.toList o = false := by
  obtain ⟨h1, h2, h3, h4, h5, h6⟩ := unknown_of h
  simp [metL, h1, h2, h3, h4, h5, h6]
theorem conv_unknown (c : ByteArray) (h : knownL c.toList = false) : convS c = c := by
  obtain ⟨h1, h2, h3, h4, h5, h6⟩ := unknown_of h
  simp [convS, h1, h2, h3, h4, h5, h6]
theorem met_le (o : Option Ordering) : metL (⟨#[60, 61]⟩ : ByteArray).toList o = (o == some .lt || o == some .eq) := by
  rw [show (⟨#[60, 61]⟩ : ByteArray).toList = [60, 61] from (ByteArray.toList_eq _).trans rfl]
  rfl
theorem met_ge (o : Option Ordering) : metL (⟨#[62, 61]⟩ : ByteArray).toList o = (o == some .gt || o == some .eq) := by
  rw [show (⟨#[62, 61]⟩ : ByteArray).toList = [62, 61] from (ByteArray.toList_eq _).trans rfl]
  rfl

theorem grown_trans {a b c : World} (h : Grown a b) (k : Grown b c) : Grown a c :=
  ⟨World.keptBut_trans h.1 k.1, fun x => (k.2.1 x).trans (h.2.1 x), Nat.le_trans h.2.2 k.2.2⟩
theorem nan_cases {x y : Nat} (h : ord x y = none) : ord x x = none ∨ (ord x x = some .eq ∧ ord y y = none) := by
  rw [ord_self x, ord_self y]
  rcases (ord_none x y).1 h with h | h
  · simp [h]
  · cases hx : isNaN x <;> simp [h]

namespace fnMetConverseTotalAndRefused
set_option maxHeartbeats 1000000 in
theorem walk_long (c : ByteArray) (n v : Nat) (w : World) (hc : 1048576 < (c.size : Int)) :
    Calls Try.prog 4 #[.string c, .float .f64 n, .float .f64 v] w fun e w' => e = .returned (.bool true) ∧ Grown w w' := by
  go_enter Try.func4, Try.ntmps4
  go_wp2
  go_ret
  exact ⟨rfl, by repeat (first | exact Grown.refl _ | apply Grown.drew | apply Grown.alloc)⟩
set_option maxHeartbeats 1000000 in
theorem known_none (c : ByteArray) (n v : Nat) (w : World) (hc : ¬ 1048576 < (c.size : Int)) (hk : knownL c.toList = true) (ho : ord v n = none) :
    Calls Try.prog 4 #[.string c, .float .f64 n, .float .f64 v] w fun e w' => e = .returned (.bool true) ∧ Grown w w' := by
  have HK : Hid (knownL c.toList = true) := hk
  have HO : Hid (ord v n = none) := ho
  clear hk ho
  go_enter Try.func4, Try.ntmps4
  go_wp2_with (first | (go_at_call 6; go_in))
  refine (met_any c _ n v w).mono ?_
  rintro e w1 ⟨rfl, g1⟩
  go_wp2_with fail
  refine (conv_any c _).mono ?_
  rintro e w2 ⟨rfl, rfl⟩
  rw [HK.out]
  go_wp2_with fail
  refine (met_any (convS c) _ v n _).mono ?_
  rintro e w3 ⟨rfl, g3⟩
  rw [ord_swap v n, met_conv c _ HK.out]
  generalize metL c.toList (ord v n) = g
  have G3 : Hid (Grown w w3) := grown_trans g1 g3
  clear g1 g3
  go_wp2_with fail
  refine (met_any ⟨#[60, 61]⟩ _ n v _).mono ?_
  rintro e w4 ⟨rfl, g4⟩
  have G4 : Hid (Grown w w4) := grown_trans G3.out g4
  clear g4 G3
  rw [met_le, HO.out, show ((none : Option Ordering) == some .lt || (none : Option Ordering) == some .eq) = false from rfl]
  go_wp2_with fail
  refine (met_any ⟨#[62, 61]⟩ _ n v _).mono ?_
  rintro e w5 ⟨rfl, g5⟩
  have G5 : Hid (Grown w w5) := grown_trans G4.out g5
  clear g5 G4
  rw [met_ge, HO.out, show ((none : Option Ordering) == some .gt || (none : Option Ordering) == some .eq) = false from rfl]
  rcases nan_cases HO.out with hv | ⟨hv, hn⟩
  · go_wp2_with fail
    go_ret
    exact ⟨rfl, G5.out⟩
  · go_wp2_with fail
    go_ret
    exact ⟨rfl, G5.out⟩
set_option maxHeartbeats 1000000 in
theorem unknown_none (c : ByteArray) (n v : Nat) (w : World) (hc : ¬ 1048576 < (c.size : Int)) (hk : knownL c.toList = false) (ho : ord v n = none) :
    Calls Try.prog 4 #[.string c, .float .f64 n, .float .f64 v] w fun e w' => e = .returned (.bool true) ∧ Grown w w' := by
  have HK : Hid (knownL c.toList = false) := hk
  have HO : Hid (ord v n = none) := ho
  clear hk ho
  go_enter Try.func4, Try.ntmps4
  go_wp2_with (first | (go_at_call 6; go_in))
  refine (met_any c _ n v w).mono ?_
  rintro e w1 ⟨rfl, g1⟩
  rw [met_unknown c _ HK.out]
  go_wp2_with fail
  refine (conv_any c _).mono ?_
  rintro e w2 ⟨rfl, rfl⟩
  rw [HK.out, conv_unknown c HK.out]
  go_wp2_with fail
  refine (met_any c _ v n _).mono ?_
  rintro e w3 ⟨rfl, g3⟩
  rw [met_unknown c _ HK.out]
  have G3 : Hid (Grown w w3) := grown_trans g1 g3
  clear g1 g3
  go_wp2_with fail
  refine (met_any ⟨#[60, 61]⟩ _ n v _).mono ?_
  rintro e w4 ⟨rfl, g4⟩
  have G4 : Hid (Grown w w4) := grown_trans G3.out g4
  clear g4 G3
  rw [met_le, HO.out, show ((none : Option Ordering) == some .lt || (none : Option Ordering) == some .eq) = false from rfl]
  go_wp2_with fail
  refine (met_any ⟨#[62, 61]⟩ _ n v _).mono ?_
  rintro e w5 ⟨rfl, g5⟩
  have G5 : Hid (Grown w w5) := grown_trans G4.out g5
  clear g5 G4
  rw [met_ge, HO.out, show ((none : Option Ordering) == some .gt || (none : Option Ordering) == some .eq) = false from rfl]
  rcases nan_cases HO.out with hv | ⟨hv, hn⟩
  · go_wp2_with fail
    go_ret
    exact ⟨rfl, G5.out⟩
  · go_wp2_with fail
    go_ret
    exact ⟨rfl, G5.out⟩
set_option maxHeartbeats 1000000 in
theorem known_lt (c : ByteArray) (n v : Nat) (w : World) (hc : ¬ 1048576 < (c.size : Int)) (hk : knownL c.toList = true) (ho : ord v n = some .lt) :
    Calls Try.prog 4 #[.string c, .float .f64 n, .float .f64 v] w fun e w' => e = .returned (.bool true) ∧ Grown w w' := by
  have HK : Hid (knownL c.toList = true) := hk
  have HO : Hid (ord v n = some .lt) := ho
  clear hk ho
  go_enter Try.func4, Try.ntmps4
  go_wp2_with (first | (go_at_call 6; go_in))
  refine (met_any c _ n v w).mono ?_
  rintro e w1 ⟨rfl, g1⟩
  go_wp2_with fail
  refine (conv_any c _).mono ?_
  rintro e w2 ⟨rfl, rfl⟩
  rw [HK.out]
  go_wp2_with fail
  refine (met_any (convS c) _ v n _).mono ?_
  rintro e w3 ⟨rfl, g3⟩
  rw [ord_swap v n, met_conv c _ HK.out]
  generalize metL c.toList (ord v n) = g
  have G3 : Hid (Grown w w3) := grown_trans g1 g3
  clear g1 g3
  go_wp2_with fail
  refine (met_any ⟨#[60, 61]⟩ _ n v _).mono ?_
  rintro e w4 ⟨rfl, g4⟩
  have G4 : Hid (Grown w w4) := grown_trans G3.out g4
  clear g4 G3
  rw [met_le, HO.out, show ((some .lt : Option Ordering) == some .lt || (some .lt : Option Ordering) == some .eq) = true from rfl]
  obtain ⟨hv, hn⟩ := ord_self_of HO.out
  go_wp2_with fail
  go_ret
  exact ⟨rfl, G4.out⟩
set_option maxHeartbeats 1000000 in
theorem unknown_lt (c : ByteArray) (n v : Nat) (w : World) (hc : ¬ 1048576 < (c.size : Int)) (hk : knownL c.toList = false) (ho : ord v n = some .lt) :
    Calls Try.prog 4 #[.string c, .float .f64 n, .float .f64 v] w fun e w' => e = .returned (.bool true) ∧ Grown w w' := by
  have HK : Hid (knownL c.toList = false) := hk
  have HO : Hid (ord v n = some .lt) := ho
  clear hk ho
  go_enter Try.func4, Try.ntmps4
  go_wp2_with (first | (go_at_call 6; go_in))
  refine (met_any c _ n v w).mono ?_
  rintro e w1 ⟨rfl, g1⟩
  rw [met_unknown c _ HK.out]
  go_wp2_with fail
  refine (conv_any c _).mono ?_
  rintro e w2 ⟨rfl, rfl⟩
  rw [HK.out, conv_unknown c HK.out]
  go_wp2_with fail
  refine (met_any c _ v n _).mono ?_
  rintro e w3 ⟨rfl, g3⟩
  rw [met_unknown c _ HK.out]
  have G3 : Hid (Grown w w3) := grown_trans g1 g3
  clear g1 g3
  go_wp2_with fail
  refine (met_any ⟨#[60, 61]⟩ _ n v _).mono ?_
  rintro e w4 ⟨rfl, g4⟩
  have G4 : Hid (Grown w w4) := grown_trans G3.out g4
  clear g4 G3
  rw [met_le, HO.out, show ((some .lt : Option Ordering) == some .lt || (some .lt : Option Ordering) == some .eq) = true from rfl]
  obtain ⟨hv, hn⟩ := ord_self_of HO.out
  go_wp2_with fail
  go_ret
  exact ⟨rfl, G4.out⟩
set_option maxHeartbeats 1000000 in
theorem known_eq (c : ByteArray) (n v : Nat) (w : World) (hc : ¬ 1048576 < (c.size : Int)) (hk : knownL c.toList = true) (ho : ord v n = some .eq) :
    Calls Try.prog 4 #[.string c, .float .f64 n, .float .f64 v] w fun e w' => e = .returned (.bool true) ∧ Grown w w' := by
  have HK : Hid (knownL c.toList = true) := hk
  have HO : Hid (ord v n = some .eq) := ho
  clear hk ho
  go_enter Try.func4, Try.ntmps4
  go_wp2_with (first | (go_at_call 6; go_in))
  refine (met_any c _ n v w).mono ?_
  rintro e w1 ⟨rfl, g1⟩
  go_wp2_with fail
  refine (conv_any c _).mono ?_
  rintro e w2 ⟨rfl, rfl⟩
  rw [HK.out]
  go_wp2_with fail
  refine (met_any (convS c) _ v n _).mono ?_
  rintro e w3 ⟨rfl, g3⟩
  rw [ord_swap v n, met_conv c _ HK.out]
  generalize metL c.toList (ord v n) = g
  have G3 : Hid (Grown w w3) := grown_trans g1 g3
  clear g1 g3
  go_wp2_with fail
  refine (met_any ⟨#[60, 61]⟩ _ n v _).mono ?_
  rintro e w4 ⟨rfl, g4⟩
  have G4 : Hid (Grown w w4) := grown_trans G3.out g4
  clear g4 G3
  rw [met_le, HO.out, show ((some .eq : Option Ordering) == some .lt || (some .eq : Option Ordering) == some .eq) = true from rfl]
  obtain ⟨hv, hn⟩ := ord_self_of HO.out
  go_wp2_with fail
  go_ret
  exact ⟨rfl, G4.out⟩
set_option maxHeartbeats 1000000 in
theorem unknown_eq (c : ByteArray) (n v : Nat) (w : World) (hc : ¬ 1048576 < (c.size : Int)) (hk : knownL c.toList = false) (ho : ord v n = some .eq) :
    Calls Try.prog 4 #[.string c, .float .f64 n, .float .f64 v] w fun e w' => e = .returned (.bool true) ∧ Grown w w' := by
  have HK : Hid (knownL c.toList = false) := hk
  have HO : Hid (ord v n = some .eq) := ho
  clear hk ho
  go_enter Try.func4, Try.ntmps4
  go_wp2_with (first | (go_at_call 6; go_in))
  refine (met_any c _ n v w).mono ?_
  rintro e w1 ⟨rfl, g1⟩
  rw [met_unknown c _ HK.out]
  go_wp2_with fail
  refine (conv_any c _).mono ?_
  rintro e w2 ⟨rfl, rfl⟩
  rw [HK.out, conv_unknown c HK.out]
  go_wp2_with fail
  refine (met_any c _ v n _).mono ?_
  rintro e w3 ⟨rfl, g3⟩
  rw [met_unknown c _ HK.out]
  have G3 : Hid (Grown w w3) := grown_trans g1 g3
  clear g1 g3
  go_wp2_with fail
  refine (met_any ⟨#[60, 61]⟩ _ n v _).mono ?_
  rintro e w4 ⟨rfl, g4⟩
  have G4 : Hid (Grown w w4) := grown_trans G3.out g4
  clear g4 G3
  rw [met_le, HO.out, show ((some .eq : Option Ordering) == some .lt || (some .eq : Option Ordering) == some .eq) = true from rfl]
  obtain ⟨hv, hn⟩ := ord_self_of HO.out
  go_wp2_with fail
  go_ret
  exact ⟨rfl, G4.out⟩
set_option maxHeartbeats 1000000 in
theorem known_gt (c : ByteArray) (n v : Nat) (w : World) (hc : ¬ 1048576 < (c.size : Int)) (hk : knownL c.toList = true) (ho : ord v n = some .gt) :
    Calls Try.prog 4 #[.string c, .float .f64 n, .float .f64 v] w fun e w' => e = .returned (.bool true) ∧ Grown w w' := by
  have HK : Hid (knownL c.toList = true) := hk
  have HO : Hid (ord v n = some .gt) := ho
  clear hk ho
  go_enter Try.func4, Try.ntmps4
  go_wp2_with (first | (go_at_call 6; go_in))
  refine (met_any c _ n v w).mono ?_
  rintro e w1 ⟨rfl, g1⟩
  go_wp2_with fail
  refine (conv_any c _).mono ?_
  rintro e w2 ⟨rfl, rfl⟩
  rw [HK.out]
  go_wp2_with fail
  refine (met_any (convS c) _ v n _).mono ?_
  rintro e w3 ⟨rfl, g3⟩
  rw [ord_swap v n, met_conv c _ HK.out]
  generalize metL c.toList (ord v n) = g
  have G3 : Hid (Grown w w3) := grown_trans g1 g3
  clear g1 g3
  go_wp2_with fail
  refine (met_any ⟨#[60, 61]⟩ _ n v _).mono ?_
  rintro e w4 ⟨rfl, g4⟩
  have G4 : Hid (Grown w w4) := grown_trans G3.out g4
  clear g4 G3
  rw [met_le, HO.out, show ((some .gt : Option Ordering) == some .lt || (some .gt : Option Ordering) == some .eq) = false from rfl]
  go_wp2_with fail
  refine (met_any ⟨#[62, 61]⟩ _ n v _).mono ?_
  rintro e w5 ⟨rfl, g5⟩
  have G5 : Hid (Grown w w5) := grown_trans G4.out g5
  clear g5 G4
  rw [met_ge, HO.out, show ((some .gt : Option Ordering) == some .gt || (some .gt : Option Ordering) == some .eq) = true from rfl]
  obtain ⟨hv, hn⟩ := ord_self_of HO.out
  go_wp2_with fail
  go_ret
  exact ⟨rfl, G5.out⟩
set_option maxHeartbeats 1000000 in
theorem unknown_gt (c : ByteArray) (n v : Nat) (w : World) (hc : ¬ 1048576 < (c.size : Int)) (hk : knownL c.toList = false) (ho : ord v n = some .gt) :
    Calls Try.prog 4 #[.string c, .float .f64 n, .float .f64 v] w fun e w' => e = .returned (.bool true) ∧ Grown w w' := by
  have HK : Hid (knownL c.toList = false) := hk
  have HO : Hid (ord v n = some .gt) := ho
  clear hk ho
  go_enter Try.func4, Try.ntmps4
  go_wp2_with (first | (go_at_call 6; go_in))
  refine (met_any c _ n v w).mono ?_
  rintro e w1 ⟨rfl, g1⟩
  rw [met_unknown c _ HK.out]
  go_wp2_with fail
  refine (conv_any c _).mono ?_
  rintro e w2 ⟨rfl, rfl⟩
  rw [HK.out, conv_unknown c HK.out]
  go_wp2_with fail
  refine (met_any c _ v n _).mono ?_
  rintro e w3 ⟨rfl, g3⟩
  rw [met_unknown c _ HK.out]
  have G3 : Hid (Grown w w3) := grown_trans g1 g3
  clear g1 g3
  go_wp2_with fail
  refine (met_any ⟨#[60, 61]⟩ _ n v _).mono ?_
  rintro e w4 ⟨rfl, g4⟩
  have G4 : Hid (Grown w w4) := grown_trans G3.out g4
  clear g4 G3
  rw [met_le, HO.out, show ((some .gt : Option Ordering) == some .lt || (some .gt : Option Ordering) == some .eq) = false from rfl]
  go_wp2_with fail
  refine (met_any ⟨#[62, 61]⟩ _ n v _).mono ?_
  rintro e w5 ⟨rfl, g5⟩
  have G5 : Hid (Grown w w5) := grown_trans G4.out g5
  clear g5 G4
  rw [met_ge, HO.out, show ((some .gt : Option Ordering) == some .gt || (some .gt : Option Ordering) == some .eq) = true from rfl]
  obtain ⟨hv, hn⟩ := ord_self_of HO.out
  go_wp2_with fail
  go_ret
  exact ⟨rfl, G5.out⟩

theorem walk (c : ByteArray) (n v : Nat) (w : World) :
    Calls Try.prog 4 #[.string c, .float .f64 n, .float .f64 v] w fun e w' => e = .returned (.bool true) ∧ Grown w w' := by
  by_cases hc : 1048576 < (c.size : Int)
  · exact walk_long c n v w hc
  cases hk : knownL c.toList <;> rcases h : ord v n with _ | (_ | _ | _)
  · exact unknown_none c n v w hc hk h
  · exact unknown_lt c n v w hc hk h
  · exact unknown_eq c n v w hc hk h
  · exact unknown_gt c n v w hc hk h
  · exact known_none c n v w hc hk h
  · exact known_lt c n v w hc hk h
  · exact known_eq c n v w hc hk h
  · exact known_gt c n v w hc hk h
end fnMetConverseTotalAndRefused
end Go.Proofs.Qxb6628210a
