/-
  No cell of these rows narrows 'for every input' (looked for: loops, veiled, ifaces, maps, wideKeys, modest, calm, conditions, laid).
  DERIVED. THE GIVEN ROWS OF THIS SEAT. 2 by the template 'for every input the law returns true; each argument reads behind the call as it read before'; 0 by the template 'total and deterministic' (their statements: Qxb6628157aTotals.lean).
  GIVEN WITH THE SEED: the statements are not yours to turn. If you find one false, say at which input.
  Laid BY PROGRAM, IN A SANDBOX (cutbox-rows.mjs): the forced cells as the released guide's own fill.sh prints them over the translation 5bde20e8a7a0096b… (all of the seat's roots in one cut). By AI agents, Wed Nov 11 2026. No macro, syntax, notation, axiom, sorry.
-/
import Derived.Test.Qxb6628157aChecked
import GoSem.Claim
import GoSem.ClaimJoined
import GoSem.ClaimMapViews
import Derived.JoinedTies
import Derived.KernelRfl
namespace Go.Proofs.Qxb6628157a
/- THE CELL 'sum', in the pinned program and in every row, IS THE sha256 OF THE DUMP (.gsa) THAT Qxb6628157aProg.lean LOADS. Nothing in Lean hashes anything: it is a label: what it is worth is what the hold of that sum in a sandbox is worth. -/
noncomputable def Try.pinned : Pinned := { name := "qxb6628157a", sum := "5bde20e8a7a0096b7b0810732bbf94f2b9151725659358870b61ab96c6250310", checked := Try.checked }
namespace Rows
def none {H : Type} : Left H := { results := [], args := [] }

/-- 'zzlaws_internal_csvfile_b1.FnStringColumnsJoinAtAnyCut': WHATEVER THE INPUT: true; the input reads as it did. -/
def fnStringColumnsJoinAtAnyCutSpec : ChangeSpec := { name := "fnStringColumnsJoinAtAnyCut", fn := fun _ => fun
  | [d1, d2, d3] => { results := [.lit (.bool true)], args := [d1, d2, d3] }
  | _ => none }
def fnStringColumnsJoinAtAnyCutRow : OpenClaim := { program := "qxb6628157a", sum := "5bde20e8a7a0096b7b0810732bbf94f2b9151725659358870b61ab96c6250310", func := "example.com/zhaomu/zhaomu/zzlaws_internal_csvfile_b1.FnStringColumnsJoinAtAnyCut", spec := "fnStringColumnsJoinAtAnyCut", inPlace := ["internal/abi.NoEscape", "internal/bytealg.MakeNoZero"], apart := false }
def FnStringColumnsJoinAtAnyCutSaid : Prop := fnStringColumnsJoinAtAnyCutRow.holds Try.pinned (OpenSpec.ofChange fnStringColumnsJoinAtAnyCutSpec)

/-- ITS FALSE NEIGHBOUR: 'it returns false'. Refute it at one input. -/
def fnStringColumnsJoinAtAnyCutWrong : ChangeSpec := { name := "fnStringColumnsJoinAtAnyCut", fn := fun _ => fun
  | [d1, d2, d3] => { results := [.lit (.bool false)], args := [d1, d2, d3] }
  | _ => none }
def FnStringColumnsJoinAtAnyCutWrongFalsely : Prop := fnStringColumnsJoinAtAnyCutRow.holds Try.pinned (OpenSpec.ofChange fnStringColumnsJoinAtAnyCutWrong)

/-- 'zzlaws_internal_csvfile_b1.FnStringOptionalsNestAtAnyCut': WHATEVER THE INPUT: true; the input reads as it did. -/
def fnStringOptionalsNestAtAnyCutSpec : ChangeSpec := { name := "fnStringOptionalsNestAtAnyCut", fn := fun _ => fun
  | [d1, d2, d3] => { results := [.lit (.bool true)], args := [d1, d2, d3] }
  | _ => none }
def fnStringOptionalsNestAtAnyCutRow : OpenClaim := { program := "qxb6628157a", sum := "5bde20e8a7a0096b7b0810732bbf94f2b9151725659358870b61ab96c6250310", func := "example.com/zhaomu/zhaomu/zzlaws_internal_csvfile_b1.FnStringOptionalsNestAtAnyCut", spec := "fnStringOptionalsNestAtAnyCut", inPlace := ["internal/abi.NoEscape", "internal/bytealg.MakeNoZero"], apart := false }
def FnStringOptionalsNestAtAnyCutSaid : Prop := fnStringOptionalsNestAtAnyCutRow.holds Try.pinned (OpenSpec.ofChange fnStringOptionalsNestAtAnyCutSpec)

/-- ITS FALSE NEIGHBOUR: 'it returns false'. Refute it at one input. -/
def fnStringOptionalsNestAtAnyCutWrong : ChangeSpec := { name := "fnStringOptionalsNestAtAnyCut", fn := fun _ => fun
  | [d1, d2, d3] => { results := [.lit (.bool false)], args := [d1, d2, d3] }
  | _ => none }
def FnStringOptionalsNestAtAnyCutWrongFalsely : Prop := fnStringOptionalsNestAtAnyCutRow.holds Try.pinned (OpenSpec.ofChange fnStringOptionalsNestAtAnyCutWrong)

end Rows
end Go.Proofs.Qxb6628157a
