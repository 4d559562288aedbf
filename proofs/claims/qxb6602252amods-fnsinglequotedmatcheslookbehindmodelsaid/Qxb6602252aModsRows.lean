/-
  No cell of these rows narrows 'for every input' (looked for: loops, veiled, ifaces, maps, wideKeys, modest, calm, conditions, laid).
  DERIVED. THE GIVEN ROWS OF THIS SEAT. 2 by the template 'for every input the law returns true; each argument reads behind the call as it read before'; 0 by the template 'total and deterministic' (their statements: Qxb6602252aModsTotals.lean).
  GIVEN WITH THE SEED: the statements are not yours to turn. If you find one false, say at which input.
  Laid BY PROGRAM, IN A SANDBOX (cutbox-rows.mjs): the forced cells as the released guide's own fill.sh prints them over the translation ffb311558677ba63… (all of the seat's roots in one cut). By AI agents, Wed Nov 11 2026. No macro, syntax, notation, axiom, sorry.
-/
import Derived.Test.Qxb6602252aModsChecked
import GoSem.Claim
import GoSem.ClaimJoined
import GoSem.ClaimMapViews
import Derived.JoinedTies
import Derived.KernelRfl
namespace Go.Proofs.Qxb6602252aMods
/- THE CELL 'sum', in the pinned program and in every row, IS THE sha256 OF THE DUMP (.gsa) THAT Qxb6602252aModsProg.lean LOADS. Nothing in Lean hashes anything: it is a label: what it is worth is what the hold of that sum in a sandbox is worth. -/
noncomputable def Trym.pinned : Pinned := { name := "qxb6602252amods", sum := "ffb311558677ba634d35ec0333a5a7b866d6c8f0237e8de43eadb9dd4fae86e3", checked := Trym.checked }
namespace Rows
def none {H : Type} : Left H := { results := [], args := [] }

/-- 'zzlaws_internal_manifest_b1.FnSingleQuotedMatchesLookbehindModel': WHATEVER THE INPUT: true; the input reads as it did. -/
def fnSingleQuotedMatchesLookbehindModelSpec : ChangeSpec := { name := "fnSingleQuotedMatchesLookbehindModel", fn := fun _ => fun
  | [d1, d2] => { results := [.lit (.bool true)], args := [d1, d2] }
  | _ => none }
def fnSingleQuotedMatchesLookbehindModelRow : OpenClaim := { program := "qxb6602252amods", sum := "ffb311558677ba634d35ec0333a5a7b866d6c8f0237e8de43eadb9dd4fae86e3", func := "example.com/evenkeel/evenkeel/zzlaws_internal_manifest_b1.FnSingleQuotedMatchesLookbehindModel", spec := "fnSingleQuotedMatchesLookbehindModel", make := .lifted ["publicsums"], apart := false }
def FnSingleQuotedMatchesLookbehindModelSaid : Prop := fnSingleQuotedMatchesLookbehindModelRow.holds Trym.pinned (OpenSpec.ofChange fnSingleQuotedMatchesLookbehindModelSpec)

/-- ITS FALSE NEIGHBOUR: 'it returns false'. Refute it at one input. -/
def fnSingleQuotedMatchesLookbehindModelWrong : ChangeSpec := { name := "fnSingleQuotedMatchesLookbehindModel", fn := fun _ => fun
  | [d1, d2] => { results := [.lit (.bool false)], args := [d1, d2] }
  | _ => none }
def FnSingleQuotedMatchesLookbehindModelWrongFalsely : Prop := fnSingleQuotedMatchesLookbehindModelRow.holds Trym.pinned (OpenSpec.ofChange fnSingleQuotedMatchesLookbehindModelWrong)

/-- 'zzlaws_internal_manifest_b1.FnSingleQuotedInvertsQuoting': WHATEVER THE INPUT: true; the input reads as it did. -/
def fnSingleQuotedInvertsQuotingSpec : ChangeSpec := { name := "fnSingleQuotedInvertsQuoting", fn := fun _ => fun
  | [d1, d2] => { results := [.lit (.bool true)], args := [d1, d2] }
  | _ => none }
def fnSingleQuotedInvertsQuotingRow : OpenClaim := { program := "qxb6602252amods", sum := "ffb311558677ba634d35ec0333a5a7b866d6c8f0237e8de43eadb9dd4fae86e3", func := "example.com/evenkeel/evenkeel/zzlaws_internal_manifest_b1.FnSingleQuotedInvertsQuoting", spec := "fnSingleQuotedInvertsQuoting", make := .lifted ["publicsums"], apart := false }
def FnSingleQuotedInvertsQuotingSaid : Prop := fnSingleQuotedInvertsQuotingRow.holds Trym.pinned (OpenSpec.ofChange fnSingleQuotedInvertsQuotingSpec)

/-- ITS FALSE NEIGHBOUR: 'it returns false'. Refute it at one input. -/
def fnSingleQuotedInvertsQuotingWrong : ChangeSpec := { name := "fnSingleQuotedInvertsQuoting", fn := fun _ => fun
  | [d1, d2] => { results := [.lit (.bool false)], args := [d1, d2] }
  | _ => none }
def FnSingleQuotedInvertsQuotingWrongFalsely : Prop := fnSingleQuotedInvertsQuotingRow.holds Trym.pinned (OpenSpec.ofChange fnSingleQuotedInvertsQuotingWrong)

end Rows
end Go.Proofs.Qxb6602252aMods
