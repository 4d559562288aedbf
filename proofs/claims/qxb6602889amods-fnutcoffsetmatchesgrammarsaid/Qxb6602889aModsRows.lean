/-
  No cell of these rows narrows 'for every input' (looked for: loops, veiled, ifaces, maps, wideKeys, modest, calm, conditions, laid).
  DERIVED. THE GIVEN ROWS OF THIS SEAT. 4 by the template 'for every input the law returns true; each argument reads behind the call as it read before'; 0 by the template 'total and deterministic' (their statements: Qxb6602889aModsTotals.lean).
  GIVEN WITH THE SEED: the statements are not yours to turn. If you find one false, say at which input.
  Laid BY PROGRAM, IN A SANDBOX (cutbox-rows.mjs): the forced cells as the released guide's own fill.sh prints them over the translation 7538f173d383d2b3… (all of the seat's roots in one cut). By AI agents, Wed Nov 11 2026. No macro, syntax, notation, axiom, sorry.
-/
import Derived.Test.Qxb6602889aModsChecked
import GoSem.Claim
import GoSem.ClaimJoined
import GoSem.ClaimMapViews
import Derived.JoinedTies
import Derived.KernelRfl
namespace Go.Proofs.Qxb6602889aMods
/- THE CELL 'sum', in the pinned program and in every row, IS THE sha256 OF THE DUMP (.gsa) THAT Qxb6602889aModsProg.lean LOADS. Nothing in Lean hashes anything: it is a label: what it is worth is what the hold of that sum in a sandbox is worth. -/
noncomputable def Trym.pinned : Pinned := { name := "qxb6602889amods", sum := "7538f173d383d2b3bd24e978b7a9c39942791310c27d0b091a60267644a7e6ef", checked := Trym.checked }
namespace Rows
def none {H : Type} : Left H := { results := [], args := [] }

/-- 'zzlaws_table_b1.FnUtcOffsetMatchesGrammar': WHATEVER THE INPUT: true; the input reads as it did. -/
def fnUtcOffsetMatchesGrammarSpec : ChangeSpec := { name := "fnUtcOffsetMatchesGrammar", fn := fun _ => fun
  | [d] => { results := [.lit (.bool true)], args := [d] }
  | _ => none }
def fnUtcOffsetMatchesGrammarRow : OpenClaim := { program := "qxb6602889amods", sum := "7538f173d383d2b3bd24e978b7a9c39942791310c27d0b091a60267644a7e6ef", func := "example.com/arms-length/arms-length/zzlaws_table_b1.FnUtcOffsetMatchesGrammar", spec := "fnUtcOffsetMatchesGrammar", make := .lifted ["publicsums"], apart := false }
def FnUtcOffsetMatchesGrammarSaid : Prop := fnUtcOffsetMatchesGrammarRow.holds Trym.pinned (OpenSpec.ofChange fnUtcOffsetMatchesGrammarSpec)

/-- ITS FALSE NEIGHBOUR: 'it returns false'. Refute it at one input. -/
def fnUtcOffsetMatchesGrammarWrong : ChangeSpec := { name := "fnUtcOffsetMatchesGrammar", fn := fun _ => fun
  | [d] => { results := [.lit (.bool false)], args := [d] }
  | _ => none }
def FnUtcOffsetMatchesGrammarWrongFalsely : Prop := fnUtcOffsetMatchesGrammarRow.holds Trym.pinned (OpenSpec.ofChange fnUtcOffsetMatchesGrammarWrong)

/-- 'zzlaws_table_b1.FnUtcOffsetRenderRoundTrip': WHATEVER THE INPUT: true; the input reads as it did. -/
def fnUtcOffsetRenderRoundTripSpec : ChangeSpec := { name := "fnUtcOffsetRenderRoundTrip", fn := fun _ => fun
  | [d1, d2] => { results := [.lit (.bool true)], args := [d1, d2] }
  | _ => none }
def fnUtcOffsetRenderRoundTripRow : OpenClaim := { program := "qxb6602889amods", sum := "7538f173d383d2b3bd24e978b7a9c39942791310c27d0b091a60267644a7e6ef", func := "example.com/arms-length/arms-length/zzlaws_table_b1.FnUtcOffsetRenderRoundTrip", spec := "fnUtcOffsetRenderRoundTrip", make := .lifted ["publicsums"], apart := false }
def FnUtcOffsetRenderRoundTripSaid : Prop := fnUtcOffsetRenderRoundTripRow.holds Trym.pinned (OpenSpec.ofChange fnUtcOffsetRenderRoundTripSpec)

/-- ITS FALSE NEIGHBOUR: 'it returns false'. Refute it at one input. -/
def fnUtcOffsetRenderRoundTripWrong : ChangeSpec := { name := "fnUtcOffsetRenderRoundTrip", fn := fun _ => fun
  | [d1, d2] => { results := [.lit (.bool false)], args := [d1, d2] }
  | _ => none }
def FnUtcOffsetRenderRoundTripWrongFalsely : Prop := fnUtcOffsetRenderRoundTripRow.holds Trym.pinned (OpenSpec.ofChange fnUtcOffsetRenderRoundTripWrong)

/-- 'zzlaws_table_b1.FnUtcOffsetSignFlipNegates': WHATEVER THE INPUT: true; the input reads as it did. -/
def fnUtcOffsetSignFlipNegatesSpec : ChangeSpec := { name := "fnUtcOffsetSignFlipNegates", fn := fun _ => fun
  | [d] => { results := [.lit (.bool true)], args := [d] }
  | _ => none }
def fnUtcOffsetSignFlipNegatesRow : OpenClaim := { program := "qxb6602889amods", sum := "7538f173d383d2b3bd24e978b7a9c39942791310c27d0b091a60267644a7e6ef", func := "example.com/arms-length/arms-length/zzlaws_table_b1.FnUtcOffsetSignFlipNegates", spec := "fnUtcOffsetSignFlipNegates", make := .lifted ["publicsums"], apart := false }
def FnUtcOffsetSignFlipNegatesSaid : Prop := fnUtcOffsetSignFlipNegatesRow.holds Trym.pinned (OpenSpec.ofChange fnUtcOffsetSignFlipNegatesSpec)

/-- ITS FALSE NEIGHBOUR: 'it returns false'. Refute it at one input. -/
def fnUtcOffsetSignFlipNegatesWrong : ChangeSpec := { name := "fnUtcOffsetSignFlipNegates", fn := fun _ => fun
  | [d] => { results := [.lit (.bool false)], args := [d] }
  | _ => none }
def FnUtcOffsetSignFlipNegatesWrongFalsely : Prop := fnUtcOffsetSignFlipNegatesRow.holds Trym.pinned (OpenSpec.ofChange fnUtcOffsetSignFlipNegatesWrong)

/-- 'zzlaws_table_b1.FnDateFormatIgnoresSkippedPrefix': WHATEVER THE INPUT: true; the input reads as it did. -/
def fnDateFormatIgnoresSkippedPrefixSpec : ChangeSpec := { name := "fnDateFormatIgnoresSkippedPrefix", fn := fun _ => fun
  | [d1, d2, d3, d4] => { results := [.lit (.bool true)], args := [d1, d2, d3, d4] }
  | _ => none }
def fnDateFormatIgnoresSkippedPrefixRow : OpenClaim := { program := "qxb6602889amods", sum := "7538f173d383d2b3bd24e978b7a9c39942791310c27d0b091a60267644a7e6ef", func := "example.com/arms-length/arms-length/zzlaws_table_b1.FnDateFormatIgnoresSkippedPrefix", spec := "fnDateFormatIgnoresSkippedPrefix", inPlace := ["internal/bytealg.IndexByteString"], make := .lifted ["publicsums"], apart := false }
def FnDateFormatIgnoresSkippedPrefixSaid : Prop := fnDateFormatIgnoresSkippedPrefixRow.holds Trym.pinned (OpenSpec.ofChange fnDateFormatIgnoresSkippedPrefixSpec)

/-- ITS FALSE NEIGHBOUR: 'it returns false'. Refute it at one input. -/
def fnDateFormatIgnoresSkippedPrefixWrong : ChangeSpec := { name := "fnDateFormatIgnoresSkippedPrefix", fn := fun _ => fun
  | [d1, d2, d3, d4] => { results := [.lit (.bool false)], args := [d1, d2, d3, d4] }
  | _ => none }
def FnDateFormatIgnoresSkippedPrefixWrongFalsely : Prop := fnDateFormatIgnoresSkippedPrefixRow.holds Trym.pinned (OpenSpec.ofChange fnDateFormatIgnoresSkippedPrefixWrong)

end Rows
end Go.Proofs.Qxb6602889aMods
