/-
  No cell of these rows narrows 'for every input' (looked for: loops, veiled, ifaces, maps, wideKeys, modest, calm, conditions, laid).
  DERIVED. THE GIVEN ROWS OF THIS SEAT. 5 by the template 'for every input the law returns true; each argument reads behind the call as it read before'; 0 by the template 'total and deterministic' (their statements: Qxb6603053aModsTotals.lean).
  GIVEN WITH THE SEED: the statements are not yours to turn. If you find one false, say at which input.
  Laid BY PROGRAM, IN A SANDBOX (cutbox-rows.mjs): the forced cells as the released guide's own fill.sh prints them over the translation 4e8a906a25cf37b3… (all of the seat's roots in one cut). By AI agents, Wed Nov 11 2026. No macro, syntax, notation, axiom, sorry.
-/
import Derived.Test.Qxb6603053aModsChecked
import GoSem.Claim
import GoSem.ClaimJoined
import GoSem.ClaimMapViews
import Derived.JoinedTies
import Derived.KernelRfl
namespace Go.Proofs.Qxb6603053aMods
/- THE CELL 'sum', in the pinned program and in every row, IS THE sha256 OF THE DUMP (.gsa) THAT Qxb6603053aModsProg.lean LOADS. Nothing in Lean hashes anything: it is a label: what it is worth is what the hold of that sum in a sandbox is worth. -/
noncomputable def Trym.pinned : Pinned := { name := "qxb6603053amods", sum := "4e8a906a25cf37b3fc05f6a7156dc062e740e4fc2f8bf83aba068697c51162ee", checked := Trym.checked }
namespace Rows
def none {H : Type} : Left H := { results := [], args := [] }

/-- 'zzlaws_deb_b1.FnWeightRangeAndLocality': WHATEVER THE INPUT: true; the input reads as it did. -/
def fnWeightRangeAndLocalitySpec : ChangeSpec := { name := "fnWeightRangeAndLocality", fn := fun _ => fun
  | [d1, d2] => { results := [.lit (.bool true)], args := [d1, d2] }
  | _ => none }
def fnWeightRangeAndLocalityRow : OpenClaim := { program := "qxb6603053amods", sum := "4e8a906a25cf37b3fc05f6a7156dc062e740e4fc2f8bf83aba068697c51162ee", func := "example.com/kilnhouse/kilnhouse/zzlaws_deb_b1.FnWeightRangeAndLocality", spec := "fnWeightRangeAndLocality", make := .lifted ["publicsums"], apart := false }
def FnWeightRangeAndLocalitySaid : Prop := fnWeightRangeAndLocalityRow.holds Trym.pinned (OpenSpec.ofChange fnWeightRangeAndLocalitySpec)

/-- ITS FALSE NEIGHBOUR: 'it returns false'. Refute it at one input. -/
def fnWeightRangeAndLocalityWrong : ChangeSpec := { name := "fnWeightRangeAndLocality", fn := fun _ => fun
  | [d1, d2] => { results := [.lit (.bool false)], args := [d1, d2] }
  | _ => none }
def FnWeightRangeAndLocalityWrongFalsely : Prop := fnWeightRangeAndLocalityRow.holds Trym.pinned (OpenSpec.ofChange fnWeightRangeAndLocalityWrong)

/-- 'zzlaws_deb_b1.FnValidFieldNameConcat': WHATEVER THE INPUT: true; the input reads as it did. -/
def fnValidFieldNameConcatSpec : ChangeSpec := { name := "fnValidFieldNameConcat", fn := fun _ => fun
  | [d1, d2] => { results := [.lit (.bool true)], args := [d1, d2] }
  | _ => none }
def fnValidFieldNameConcatRow : OpenClaim := { program := "qxb6603053amods", sum := "4e8a906a25cf37b3fc05f6a7156dc062e740e4fc2f8bf83aba068697c51162ee", func := "example.com/kilnhouse/kilnhouse/zzlaws_deb_b1.FnValidFieldNameConcat", spec := "fnValidFieldNameConcat", make := .lifted ["publicsums"], apart := false }
def FnValidFieldNameConcatSaid : Prop := fnValidFieldNameConcatRow.holds Trym.pinned (OpenSpec.ofChange fnValidFieldNameConcatSpec)

/-- ITS FALSE NEIGHBOUR: 'it returns false'. Refute it at one input. -/
def fnValidFieldNameConcatWrong : ChangeSpec := { name := "fnValidFieldNameConcat", fn := fun _ => fun
  | [d1, d2] => { results := [.lit (.bool false)], args := [d1, d2] }
  | _ => none }
def FnValidFieldNameConcatWrongFalsely : Prop := fnValidFieldNameConcatRow.holds Trym.pinned (OpenSpec.ofChange fnValidFieldNameConcatWrong)

/-- 'zzlaws_deb_b1.FnAppendTextClosedForm': WHATEVER THE INPUT: true; the input reads as it did. -/
def fnAppendTextClosedFormSpec : ChangeSpec := { name := "fnAppendTextClosedForm", fn := fun _ => fun
  | [d1, d2] => { results := [.lit (.bool true)], args := [d1, d2] }
  | _ => none }
def fnAppendTextClosedFormRow : OpenClaim := { program := "qxb6603053amods", sum := "4e8a906a25cf37b3fc05f6a7156dc062e740e4fc2f8bf83aba068697c51162ee", func := "example.com/kilnhouse/kilnhouse/zzlaws_deb_b1.FnAppendTextClosedForm", spec := "fnAppendTextClosedForm", inPlace := ["internal/bytealg.IndexByteString", "internal/bytealg.IndexString"], named := ["internal/bytealg.MaxLen"], make := .lifted ["publicsums"], apart := false }
def FnAppendTextClosedFormSaid : Prop := fnAppendTextClosedFormRow.holds Trym.pinned (OpenSpec.ofChange fnAppendTextClosedFormSpec)

/-- ITS FALSE NEIGHBOUR: 'it returns false'. Refute it at one input. -/
def fnAppendTextClosedFormWrong : ChangeSpec := { name := "fnAppendTextClosedForm", fn := fun _ => fun
  | [d1, d2] => { results := [.lit (.bool false)], args := [d1, d2] }
  | _ => none }
def FnAppendTextClosedFormWrongFalsely : Prop := fnAppendTextClosedFormRow.holds Trym.pinned (OpenSpec.ofChange fnAppendTextClosedFormWrong)

/-- 'zzlaws_deb_b1.FnAppendTextConcat': WHATEVER THE INPUT: true; the input reads as it did. -/
def fnAppendTextConcatSpec : ChangeSpec := { name := "fnAppendTextConcat", fn := fun _ => fun
  | [d1, d2, d3] => { results := [.lit (.bool true)], args := [d1, d2, d3] }
  | _ => none }
def fnAppendTextConcatRow : OpenClaim := { program := "qxb6603053amods", sum := "4e8a906a25cf37b3fc05f6a7156dc062e740e4fc2f8bf83aba068697c51162ee", func := "example.com/kilnhouse/kilnhouse/zzlaws_deb_b1.FnAppendTextConcat", spec := "fnAppendTextConcat", inPlace := ["internal/bytealg.IndexByteString", "internal/bytealg.IndexString"], named := ["internal/bytealg.MaxLen"], make := .lifted ["publicsums"], apart := false }
def FnAppendTextConcatSaid : Prop := fnAppendTextConcatRow.holds Trym.pinned (OpenSpec.ofChange fnAppendTextConcatSpec)

/-- ITS FALSE NEIGHBOUR: 'it returns false'. Refute it at one input. -/
def fnAppendTextConcatWrong : ChangeSpec := { name := "fnAppendTextConcat", fn := fun _ => fun
  | [d1, d2, d3] => { results := [.lit (.bool false)], args := [d1, d2, d3] }
  | _ => none }
def FnAppendTextConcatWrongFalsely : Prop := fnAppendTextConcatRow.holds Trym.pinned (OpenSpec.ofChange fnAppendTextConcatWrong)

/-- 'zzlaws_deb_b1.FnAppendTextRoundTrip': WHATEVER THE INPUT: true; the input reads as it did. -/
def fnAppendTextRoundTripSpec : ChangeSpec := { name := "fnAppendTextRoundTrip", fn := fun _ => fun
  | [d] => { results := [.lit (.bool true)], args := [d] }
  | _ => none }
def fnAppendTextRoundTripRow : OpenClaim := { program := "qxb6603053amods", sum := "4e8a906a25cf37b3fc05f6a7156dc062e740e4fc2f8bf83aba068697c51162ee", func := "example.com/kilnhouse/kilnhouse/zzlaws_deb_b1.FnAppendTextRoundTrip", spec := "fnAppendTextRoundTrip", inPlace := ["internal/bytealg.IndexByteString", "internal/bytealg.IndexString"], named := ["internal/bytealg.MaxLen"], make := .lifted ["publicsums"], apart := false }
def FnAppendTextRoundTripSaid : Prop := fnAppendTextRoundTripRow.holds Trym.pinned (OpenSpec.ofChange fnAppendTextRoundTripSpec)

/-- ITS FALSE NEIGHBOUR: 'it returns false'. Refute it at one input. -/
def fnAppendTextRoundTripWrong : ChangeSpec := { name := "fnAppendTextRoundTrip", fn := fun _ => fun
  | [d] => { results := [.lit (.bool false)], args := [d] }
  | _ => none }
def FnAppendTextRoundTripWrongFalsely : Prop := fnAppendTextRoundTripRow.holds Trym.pinned (OpenSpec.ofChange fnAppendTextRoundTripWrong)

end Rows
end Go.Proofs.Qxb6603053aMods
