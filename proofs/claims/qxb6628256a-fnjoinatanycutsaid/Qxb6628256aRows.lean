/-
  No cell of these rows narrows 'for every input' (looked for: loops, veiled, ifaces, maps, wideKeys, modest, calm, conditions, laid).
  DERIVED. THE GIVEN ROWS OF THIS SEAT. 2 by the template 'for every input the law returns true; each argument reads behind the call as it read before'; 0 by the template 'total and deterministic' (their statements: Qxb6628256aTotals.lean).
  GIVEN WITH THE SEED: the statements are not yours to turn. If you find one false, say at which input.
  Laid BY PROGRAM, IN A SANDBOX (cutbox-rows.mjs): the forced cells as the released guide's own fill.sh prints them over the translation 6a10a306e001ebca… (all of the seat's roots in one cut). By AI agents, Wed Nov 11 2026. No macro, syntax, notation, axiom, sorry.
-/
import Derived.Test.Qxb6628256aChecked
import GoSem.Claim
import GoSem.ClaimJoined
import GoSem.ClaimMapViews
import Derived.JoinedTies
import Derived.KernelRfl
namespace Go.Proofs.Qxb6628256a
/- THE CELL 'sum', in the pinned program and in every row, IS THE sha256 OF THE DUMP (.gsa) THAT Qxb6628256aProg.lean LOADS. Nothing in Lean hashes anything: it is a label: what it is worth is what the hold of that sum in a sandbox is worth. -/
noncomputable def Try.pinned : Pinned := { name := "qxb6628256a", sum := "6a10a306e001ebca17ec1bdfaebe8c84571b1987bd9478dde9b6852b13350811", checked := Try.checked }
namespace Rows
def none {H : Type} : Left H := { results := [], args := [] }

/-- 'zzlaws_internal_accesslog_b1.FnJoinAtAnyCut': WHATEVER THE INPUT: true; the input reads as it did. -/
def fnJoinAtAnyCutSpec : ChangeSpec := { name := "fnJoinAtAnyCut", fn := fun _ => fun
  | [d1, d2] => { results := [.lit (.bool true)], args := [d1, d2] }
  | _ => none }
def fnJoinAtAnyCutRow : OpenClaim := { program := "qxb6628256a", sum := "6a10a306e001ebca17ec1bdfaebe8c84571b1987bd9478dde9b6852b13350811", func := "example.com/humane-throttle/humane-throttle/zzlaws_internal_accesslog_b1.FnJoinAtAnyCut", spec := "fnJoinAtAnyCut", apart := false }
def FnJoinAtAnyCutSaid : Prop := fnJoinAtAnyCutRow.holds Try.pinned (OpenSpec.ofChange fnJoinAtAnyCutSpec)

/-- ITS FALSE NEIGHBOUR: 'it returns false'. Refute it at one input. -/
def fnJoinAtAnyCutWrong : ChangeSpec := { name := "fnJoinAtAnyCut", fn := fun _ => fun
  | [d1, d2] => { results := [.lit (.bool false)], args := [d1, d2] }
  | _ => none }
def FnJoinAtAnyCutWrongFalsely : Prop := fnJoinAtAnyCutRow.holds Try.pinned (OpenSpec.ofChange fnJoinAtAnyCutWrong)

/-- 'zzlaws_internal_accesslog_b1.FnEscapingTheQuoteMovesOn': WHATEVER THE INPUT: true; the input reads as it did. -/
def fnEscapingTheQuoteMovesOnSpec : ChangeSpec := { name := "fnEscapingTheQuoteMovesOn", fn := fun _ => fun
  | [d] => { results := [.lit (.bool true)], args := [d] }
  | _ => none }
def fnEscapingTheQuoteMovesOnRow : OpenClaim := { program := "qxb6628256a", sum := "6a10a306e001ebca17ec1bdfaebe8c84571b1987bd9478dde9b6852b13350811", func := "example.com/humane-throttle/humane-throttle/zzlaws_internal_accesslog_b1.FnEscapingTheQuoteMovesOn", spec := "fnEscapingTheQuoteMovesOn", apart := false }
def FnEscapingTheQuoteMovesOnSaid : Prop := fnEscapingTheQuoteMovesOnRow.holds Try.pinned (OpenSpec.ofChange fnEscapingTheQuoteMovesOnSpec)

/-- ITS FALSE NEIGHBOUR: 'it returns false'. Refute it at one input. -/
def fnEscapingTheQuoteMovesOnWrong : ChangeSpec := { name := "fnEscapingTheQuoteMovesOn", fn := fun _ => fun
  | [d] => { results := [.lit (.bool false)], args := [d] }
  | _ => none }
def FnEscapingTheQuoteMovesOnWrongFalsely : Prop := fnEscapingTheQuoteMovesOnRow.holds Try.pinned (OpenSpec.ofChange fnEscapingTheQuoteMovesOnWrong)

end Rows
end Go.Proofs.Qxb6628256a
