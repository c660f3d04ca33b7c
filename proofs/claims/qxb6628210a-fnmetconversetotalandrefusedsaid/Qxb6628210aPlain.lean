/-
  THE PLAIN LAWS OF THE ORDER OF float64: no Go in sight.
-/
import Derived.Laws.Cover2
namespace Go.Proofs.Qxb6628210a
open Ieee

theorem datum_swap (a b : Datum) : b.order a = (a.order b).map Ordering.swap := by
  cases a with
  | nan => cases b <;> rfl
  | infinity s => cases b with
    | nan => rfl
    | infinity t => cases s <;> cases t <;> rfl
    | number t n j => cases s <;> rfl
  | number s m i => cases b with
    | nan => rfl
    | infinity t => cases t <;> rfl
    | number t n j =>
      simp only [Datum.order, Option.map_some]
      rw [Int.min_comm j i, Std.OrientedCmp.eq_swap (cmp := compare)]

theorem datum_self (a : Datum) : a.order a = if a.isNaN then none else some .eq := by
  cases a with
  | nan => rfl
  | infinity s => cases s <;> rfl
  | number s m i =>
    simp only [Datum.order, Datum.isNaN]
    rw [Std.ReflCmp.compare_self (cmp := compare)]
    rfl

theorem datum_none (a b : Datum) : a.order b = none ↔ a.isNaN = true ∨ b.isNaN = true := by
  cases a <;> cases b <;> simp [Datum.order, Datum.isNaN]

/-- The order of two float64, by their bits. -/
abbrev ord (x y : Nat) : Option Ordering := FloatKind.f64.format.order x y
def isNaN (x : Nat) : Bool := (Ieee.double.read x).isNaN

theorem ord_swap (x y : Nat) : ord y x = (ord x y).map Ordering.swap := datum_swap _ _
theorem ord_self (x : Nat) : ord x x = if isNaN x then none else some .eq := datum_self _
theorem ord_none (x y : Nat) : ord x y = none ↔ isNaN x = true ∨ isNaN y = true := datum_none _ _

theorem ord_self_of {x y : Nat} {o : Ordering} (h : ord x y = some o) : ord x x = some .eq ∧ ord y y = some .eq := by
  have hn : ¬ (isNaN x = true ∨ isNaN y = true) := by
    rw [← ord_none, h]
    simp
  rw [ord_self, ord_self]
  simp at hn
  simp [hn.1, hn.2]

/-- The bits that are drawn for a NaN are a NaN's. -/
theorem nan_drawn (t : Nat) : isNaN ((t % 2) * 2 ^ 63 + 0x7ff0000000000000 + 1 + (t / 2) % (2 ^ 52 - 1)) = true := by
  have e1 : Ieee.double.signWeight = 9223372036854775808 := by decide
  have e2 : Ieee.double.binade = 4503599627370496 := by decide
  have e3 : Ieee.double.infRung = 9218868437227405312 := by decide
  generalize hr : (t % 2) * 2 ^ 63 + 0x7ff0000000000000 + 1 + (t / 2) % (2 ^ 52 - 1) = x
  have hx : x % 9223372036854775808 = 9218868437227405313 + (t / 2) % 4503599627370495 := by omega
  have hlt : (t / 2) % 4503599627370495 < 4503599627370495 := Nat.mod_lt _ (by omega)
  simp only [isNaN, Format.read, e1, e2, e3, hx]
  rw [if_neg (by omega), if_neg (by omega), if_neg (by omega)]
  rfl
/-- What 'min' (false) or 'max' (true) draws where one of the two is no number. -/
def mn (b : Bool) (x y : Nat) (w : World) : Nat := (Question.nanMinMax .f64 b x y).cut (w.tape w.drawn (.nanMinMax .f64 b x y))
theorem mn_nan (b : Bool) (x y : Nat) (w : World) : isNaN (mn b x y w) = true := nan_drawn _
theorem mn_ord (b : Bool) (x y z : Nat) (w : World) : ord (mn b x y w) z = none := (ord_none _ _).2 (.inl (mn_nan b x y w))
theorem run_min_nan {P : Program} {w : World} (ts : Array TypeId) (t : TypeId) (x y : Nat) (h : ord x y = none) :
    (Builtin.min_ ts t #[.float .f64 x, .float .f64 y]).run P w = .ok (.float .f64 (mn false x y w)) w.drew := by
  simp [Builtin.min_, Builtin.min2, h, mn, Question.forced]
theorem run_max_nan {P : Program} {w : World} (ts : Array TypeId) (t : TypeId) (x y : Nat) (h : ord x y = none) :
    (Builtin.max_ ts t #[.float .f64 x, .float .f64 y]).run P w = .ok (.float .f64 (mn true x y w)) w.drew := by
  simp [Builtin.max_, Builtin.max2, h, mn, Question.forced]
theorem run_min_lt {P : Program} {w : World} (ts : Array TypeId) (t : TypeId) (x y : Nat) (h : ord x y = some .lt) :
    (Builtin.min_ ts t #[.float .f64 x, .float .f64 y]).run P w = .ok (.float .f64 x) w := by
  simp [Builtin.min_, Builtin.min2, h]
theorem run_max_lt {P : Program} {w : World} (ts : Array TypeId) (t : TypeId) (x y : Nat) (h : ord x y = some .lt) :
    (Builtin.max_ ts t #[.float .f64 x, .float .f64 y]).run P w = .ok (.float .f64 y) w := by
  simp [Builtin.max_, Builtin.max2, h]
theorem run_min_gt {P : Program} {w : World} (ts : Array TypeId) (t : TypeId) (x y : Nat) (h : ord x y = some .gt) :
    (Builtin.min_ ts t #[.float .f64 x, .float .f64 y]).run P w = .ok (.float .f64 y) w := by
  simp [Builtin.min_, Builtin.min2, h]
theorem run_max_gt {P : Program} {w : World} (ts : Array TypeId) (t : TypeId) (x y : Nat) (h : ord x y = some .gt) :
    (Builtin.max_ ts t #[.float .f64 x, .float .f64 y]).run P w = .ok (.float .f64 x) w := by
  simp [Builtin.max_, Builtin.max2, h]
theorem run_min_eq {P : Program} (ts : Array TypeId) (t : TypeId) (x y : Nat) (h : ord x y = some .eq) :
    ∃ z, (∀ w : World, (Builtin.min_ ts t #[.float .f64 x, .float .f64 y]).run P w = .ok (.float .f64 z) w) ∧ ord z x = some .eq := by
  refine ⟨if (FloatKind.f64.decode x).neg then x else y, fun w => by simp [Builtin.min_, Builtin.min2, h], ?_⟩
  split
  · exact (ord_self_of h).1
  · rw [ord_swap, h]; rfl
theorem run_max_eq {P : Program} (ts : Array TypeId) (t : TypeId) (x y : Nat) (h : ord x y = some .eq) :
    ∃ z, (∀ w : World, (Builtin.max_ ts t #[.float .f64 x, .float .f64 y]).run P w = .ok (.float .f64 z) w) ∧ ord z x = some .eq := by
  refine ⟨if (FloatKind.f64.decode x).neg then y else x, fun w => by simp [Builtin.max_, Builtin.max2, h], ?_⟩
  split
  · rw [ord_swap, h]; rfl
  · exact (ord_self_of h).1
end Go.Proofs.Qxb6628210a
