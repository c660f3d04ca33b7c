/-
  No cell of these rows narrows 'for every input' (looked for: loops, veiled, ifaces, maps, wideKeys, modest, calm, conditions, laid).
  DERIVED. THE GIVEN ROWS OF THIS SEAT. 2 by the template 'for every input the law returns true; each argument reads behind the call as it read before'; 0 by the template 'total and deterministic' (their statements: Qxb6628210aTotals.lean).
  GIVEN WITH THE SEED: the statements are not yours to turn. If you find one false, say at which input.
  Laid BY PROGRAM, IN A SANDBOX (cutbox-rows.mjs): the forced cells as the released guide's own fill.sh prints them over the translation 5e1a11fdfa96306f… (all of the seat's roots in one cut). By AI agents, Wed Nov 11 2026. No macro, syntax, notation, axiom, sorry.
-/
import Derived.Test.Qxb6628210aChecked
import GoSem.Claim
import GoSem.ClaimJoined
import GoSem.ClaimMapViews
import Derived.JoinedTies
import Derived.KernelRfl
namespace Go.Proofs.Qxb6628210a
/- THE CELL 'sum', in the pinned program and in every row, IS THE sha256 OF THE DUMP (.gsa) THAT Qxb6628210aProg.lean LOADS. Nothing in Lean hashes anything: it is a label: what it is worth is what the hold of that sum in a sandbox is worth. -/
noncomputable def Try.pinned : Pinned := { name := "qxb6628210a", sum := "5e1a11fdfa96306f4207890387c959c0738507c423efdf54bd42162990fb93ac", checked := Try.checked }
namespace Rows
def none {H : Type} : Left H := { results := [], args := [] }

/-- 'zzlaws_internal_objective_b1.FnMetMatchesMinMaxAndNegations': WHATEVER THE INPUT: true; the input reads as it did. -/
def fnMetMatchesMinMaxAndNegationsSpec : ChangeSpec := { name := "fnMetMatchesMinMaxAndNegations", fn := fun _ => fun
  | [d1, d2] => { results := [.lit (.bool true)], args := [d1, d2] }
  | _ => none }
def fnMetMatchesMinMaxAndNegationsRow : OpenClaim := { program := "qxb6628210a", sum := "5e1a11fdfa96306f4207890387c959c0738507c423efdf54bd42162990fb93ac", func := "example.com/outturn/outturn/zzlaws_internal_objective_b1.FnMetMatchesMinMaxAndNegations", spec := "fnMetMatchesMinMaxAndNegations", apart := false }
def FnMetMatchesMinMaxAndNegationsSaid : Prop := fnMetMatchesMinMaxAndNegationsRow.holds Try.pinned (OpenSpec.ofChange fnMetMatchesMinMaxAndNegationsSpec)

/-- ITS FALSE NEIGHBOUR: 'it returns false'. Refute it at one input. -/
def fnMetMatchesMinMaxAndNegationsWrong : ChangeSpec := { name := "fnMetMatchesMinMaxAndNegations", fn := fun _ => fun
  | [d1, d2] => { results := [.lit (.bool false)], args := [d1, d2] }
  | _ => none }
def FnMetMatchesMinMaxAndNegationsWrongFalsely : Prop := fnMetMatchesMinMaxAndNegationsRow.holds Try.pinned (OpenSpec.ofChange fnMetMatchesMinMaxAndNegationsWrong)

/-- 'zzlaws_internal_objective_b1.FnMetConverseTotalAndRefused': WHATEVER THE INPUT: true; the input reads as it did. -/
def fnMetConverseTotalAndRefusedSpec : ChangeSpec := { name := "fnMetConverseTotalAndRefused", fn := fun _ => fun
  | [d1, d2, d3] => { results := [.lit (.bool true)], args := [d1, d2, d3] }
  | _ => none }
def fnMetConverseTotalAndRefusedRow : OpenClaim := { program := "qxb6628210a", sum := "5e1a11fdfa96306f4207890387c959c0738507c423efdf54bd42162990fb93ac", func := "example.com/outturn/outturn/zzlaws_internal_objective_b1.FnMetConverseTotalAndRefused", spec := "fnMetConverseTotalAndRefused", apart := false }
def FnMetConverseTotalAndRefusedSaid : Prop := fnMetConverseTotalAndRefusedRow.holds Try.pinned (OpenSpec.ofChange fnMetConverseTotalAndRefusedSpec)

/-- ITS FALSE NEIGHBOUR: 'it returns false'. Refute it at one input. -/
def fnMetConverseTotalAndRefusedWrong : ChangeSpec := { name := "fnMetConverseTotalAndRefused", fn := fun _ => fun
  | [d1, d2, d3] => { results := [.lit (.bool false)], args := [d1, d2, d3] }
  | _ => none }
def FnMetConverseTotalAndRefusedWrongFalsely : Prop := fnMetConverseTotalAndRefusedRow.holds Try.pinned (OpenSpec.ofChange fnMetConverseTotalAndRefusedWrong)

end Rows
end Go.Proofs.Qxb6628210a
