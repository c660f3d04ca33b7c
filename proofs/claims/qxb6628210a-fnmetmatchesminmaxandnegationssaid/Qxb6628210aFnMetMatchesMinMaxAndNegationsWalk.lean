/-
  THE WALK OF THE LAW FnMetMatchesMinMaxAndNegations (3): the four ways in which two float64 stand to each other.
-/
import Derived.Test.Qxb6628210aRows
import Derived.Test.Qxb6628210aPlain
import Derived.WalkKit
import Derived.ProofKit
import Derived.OpenShut
import Derived.ShutString
import Derived.WalkLawsBesides
namespace Go.Proofs.Qxb6628210a
open Go.ChangeShapes Go.WideShapes Go.ChangeAt Go.RowKit
namespace fnMetMatchesMinMaxAndNegations

set_option maxHeartbeats 1000000 in
theorem walk_lt (n v : Nat) (w : World) (h : ord v n = some .lt) :
    Calls Try.prog 3 #[.float .f64 n, .float .f64 v] w fun e w' => e = .returned (.bool true) ∧ Grown w w' := by
  have h2 := (ord_self_of h).1
  have h3 : ord n v = some .gt := by rw [ord_swap, h]; rfl
  have hmin := fun (ts : Array TypeId) (t : TypeId) (wx : World) => run_min_lt (P := Try.prog) (w := wx) ts t v n h
  have hmax := fun (ts : Array TypeId) (t : TypeId) (wx : World) => run_max_lt (P := Try.prog) (w := wx) ts t v n h
  go_enter Try.func3, Try.ntmps3
  go_wp2
  go_ret
  exact ⟨rfl, by repeat (first | exact Grown.refl _ | apply Grown.drew | apply Grown.alloc)⟩

set_option maxHeartbeats 1000000 in
theorem walk_gt (n v : Nat) (w : World) (h : ord v n = some .gt) :
    Calls Try.prog 3 #[.float .f64 n, .float .f64 v] w fun e w' => e = .returned (.bool true) ∧ Grown w w' := by
  have h2 := (ord_self_of h).1
  have h3 : ord n v = some .lt := by rw [ord_swap, h]; rfl
  have hmin := fun (ts : Array TypeId) (t : TypeId) (wx : World) => run_min_gt (P := Try.prog) (w := wx) ts t v n h
  have hmax := fun (ts : Array TypeId) (t : TypeId) (wx : World) => run_max_gt (P := Try.prog) (w := wx) ts t v n h
  go_enter Try.func3, Try.ntmps3
  go_wp2
  go_ret
  exact ⟨rfl, by repeat (first | exact Grown.refl _ | apply Grown.drew | apply Grown.alloc)⟩

set_option maxHeartbeats 1000000 in
theorem walk_eq (n v : Nat) (w : World) (h : ord v n = some .eq) :
    Calls Try.prog 3 #[.float .f64 n, .float .f64 v] w fun e w' => e = .returned (.bool true) ∧ Grown w w' := by
  obtain ⟨lo, hmin, hlo⟩ := run_min_eq (P := Try.prog) #[22, 22] 22 v n h
  obtain ⟨hi, hmax, hhi⟩ := run_max_eq (P := Try.prog) #[22, 22] 22 v n h
  go_enter Try.func3, Try.ntmps3
  go_wp2
  go_ret
  exact ⟨rfl, by repeat (first | exact Grown.refl _ | apply Grown.drew | apply Grown.alloc)⟩

set_option maxHeartbeats 1000000 in
theorem walk_none (n v : Nat) (w : World) (h : ord v n = none) :
    Calls Try.prog 3 #[.float .f64 n, .float .f64 v] w fun e w' => e = .returned (.bool true) ∧ Grown w w' := by
  have hmin := fun (ts : Array TypeId) (t : TypeId) (wx : World) => run_min_nan (P := Try.prog) (w := wx) ts t v n h
  have hmax := fun (ts : Array TypeId) (t : TypeId) (wx : World) => run_max_nan (P := Try.prog) (w := wx) ts t v n h
  have hord := fun (b : Bool) (wx : World) => mn_ord b v n v wx
  go_enter Try.func3, Try.ntmps3
  go_wp2
  go_ret
  exact ⟨rfl, by repeat (first | exact Grown.refl _ | apply Grown.drew | apply Grown.alloc)⟩

theorem walk (n v : Nat) (w : World) :
    Calls Try.prog 3 #[.float .f64 n, .float .f64 v] w fun e w' => e = .returned (.bool true) ∧ Grown w w' := by
  cases h : ord v n with
  | none => exact walk_none n v w h
  | some o =>
    cases o with
    | lt => exact walk_lt n v w h
    | eq => exact walk_eq n v w h
    | gt => exact walk_gt n v w h
end fnMetMatchesMinMaxAndNegations
end Go.Proofs.Qxb6628210a
