/-
  No cell of these rows narrows 'for every input' (looked for: loops, veiled, ifaces, maps, wideKeys, modest, calm, conditions, laid).
  DERIVED. THE GIVEN ROWS OF THIS SEAT. 2 by the template 'for every input the law returns true; each argument reads behind the call as it read before'; 0 by the template 'total and deterministic' (their statements: Qxb6628451aTotals.lean).
  GIVEN WITH THE SEED: the statements are not yours to turn. If you find one false, say at which input.
  Laid BY PROGRAM, IN A SANDBOX (cutbox-rows.mjs): the forced cells as the released guide's own fill.sh prints them over the translation 3520bcad026fc7a2… (all of the seat's roots in one cut). By AI agents, Wed Nov 11 2026. No macro, syntax, notation, axiom, sorry.
-/
import Derived.Test.Qxb6628451aChecked
import GoSem.Claim
import GoSem.ClaimJoined
import GoSem.ClaimMapViews
import Derived.JoinedTies
import Derived.KernelRfl
namespace Go.Proofs.Qxb6628451a
/- THE CELL 'sum', in the pinned program and in every row, IS THE sha256 OF THE DUMP (.gsa) THAT Qxb6628451aProg.lean LOADS. Nothing in Lean hashes anything: it is a label: what it is worth is what the hold of that sum in a sandbox is worth. -/
noncomputable def Try.pinned : Pinned := { name := "qxb6628451a", sum := "3520bcad026fc7a2a68f96641b9d416896cddc38296ab5f82e0c7ce34698dde0", checked := Try.checked }
namespace Rows
def none {H : Type} : Left H := { results := [], args := [] }

/-- 'zzlaws_internal_mvcc_b1.FnPrefixSpanHoldsExactlyThePrefixed': WHATEVER THE INPUT: true; the input reads as it did. -/
def fnPrefixSpanHoldsExactlyThePrefixedSpec : ChangeSpec := { name := "fnPrefixSpanHoldsExactlyThePrefixed", fn := fun _ => fun
  | [d1, d2] => { results := [.lit (.bool true)], args := [d1, d2] }
  | _ => none }
def fnPrefixSpanHoldsExactlyThePrefixedRow : OpenClaim := { program := "qxb6628451a", sum := "3520bcad026fc7a2a68f96641b9d416896cddc38296ab5f82e0c7ce34698dde0", func := "example.com/tideline/tideline/zzlaws_internal_mvcc_b1.FnPrefixSpanHoldsExactlyThePrefixed", spec := "fnPrefixSpanHoldsExactlyThePrefixed", apart := false }
def FnPrefixSpanHoldsExactlyThePrefixedSaid : Prop := fnPrefixSpanHoldsExactlyThePrefixedRow.holds Try.pinned (OpenSpec.ofChange fnPrefixSpanHoldsExactlyThePrefixedSpec)

/-- ITS FALSE NEIGHBOUR: 'it returns false'. Refute it at one input. -/
def fnPrefixSpanHoldsExactlyThePrefixedWrong : ChangeSpec := { name := "fnPrefixSpanHoldsExactlyThePrefixed", fn := fun _ => fun
  | [d1, d2] => { results := [.lit (.bool false)], args := [d1, d2] }
  | _ => none }
def FnPrefixSpanHoldsExactlyThePrefixedWrongFalsely : Prop := fnPrefixSpanHoldsExactlyThePrefixedRow.holds Try.pinned (OpenSpec.ofChange fnPrefixSpanHoldsExactlyThePrefixedWrong)

/-- 'zzlaws_internal_mvcc_b1.FnPrefixSpanNestOrApart': WHATEVER THE INPUT: true; the input reads as it did. -/
def fnPrefixSpanNestOrApartSpec : ChangeSpec := { name := "fnPrefixSpanNestOrApart", fn := fun _ => fun
  | [d1, d2] => { results := [.lit (.bool true)], args := [d1, d2] }
  | _ => none }
def fnPrefixSpanNestOrApartRow : OpenClaim := { program := "qxb6628451a", sum := "3520bcad026fc7a2a68f96641b9d416896cddc38296ab5f82e0c7ce34698dde0", func := "example.com/tideline/tideline/zzlaws_internal_mvcc_b1.FnPrefixSpanNestOrApart", spec := "fnPrefixSpanNestOrApart", apart := false }
def FnPrefixSpanNestOrApartSaid : Prop := fnPrefixSpanNestOrApartRow.holds Try.pinned (OpenSpec.ofChange fnPrefixSpanNestOrApartSpec)

/-- ITS FALSE NEIGHBOUR: 'it returns false'. Refute it at one input. -/
def fnPrefixSpanNestOrApartWrong : ChangeSpec := { name := "fnPrefixSpanNestOrApart", fn := fun _ => fun
  | [d1, d2] => { results := [.lit (.bool false)], args := [d1, d2] }
  | _ => none }
def FnPrefixSpanNestOrApartWrongFalsely : Prop := fnPrefixSpanNestOrApartRow.holds Try.pinned (OpenSpec.ofChange fnPrefixSpanNestOrApartWrong)

end Rows
end Go.Proofs.Qxb6628451a
