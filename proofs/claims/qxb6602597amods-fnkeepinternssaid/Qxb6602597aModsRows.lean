/-
  No cell of these rows narrows 'for every input' (looked for: loops, veiled, ifaces, maps, wideKeys, modest, calm, conditions, laid).
  DERIVED. THE GIVEN ROWS OF THIS SEAT. 4 by the template 'for every input the law returns true; each argument reads behind the call as it read before'; 0 by the template 'total and deterministic' (their statements: Qxb6602597aModsTotals.lean).
  GIVEN WITH THE SEED: the statements are not yours to turn. If you find one false, say at which input.
  Laid BY PROGRAM, IN A SANDBOX (cutbox-rows.mjs): the forced cells as the released guide's own fill.sh prints them over the translation 81f1f950d452fb65… (all of the seat's roots in one cut). By AI agents, Wed Nov 11 2026. No macro, syntax, notation, axiom, sorry.
-/
import Derived.Test.Qxb6602597aModsChecked
import GoSem.Claim
import GoSem.ClaimJoined
import GoSem.ClaimMapViews
import Derived.JoinedTies
import Derived.KernelRfl
namespace Go.Proofs.Qxb6602597aMods
/- THE CELL 'sum', in the pinned program and in every row, IS THE sha256 OF THE DUMP (.gsa) THAT Qxb6602597aModsProg.lean LOADS. Nothing in Lean hashes anything: it is a label: what it is worth is what the hold of that sum in a sandbox is worth. -/
noncomputable def Trym.pinned : Pinned := { name := "qxb6602597amods", sum := "81f1f950d452fb6530e5de70d925113c43b0ec388f8952d7245ce222b77b4ac8", checked := Trym.checked }
namespace Rows
def none {H : Type} : Left H := { results := [], args := [] }

/-- 'zzlaws_internal_book_b1.FnInQuotesMatchesTable': WHATEVER THE INPUT: true; the input reads as it did. -/
def fnInQuotesMatchesTableSpec : ChangeSpec := { name := "fnInQuotesMatchesTable", fn := fun _ => fun
  | [d] => { results := [.lit (.bool true)], args := [d] }
  | _ => none }
def fnInQuotesMatchesTableRow : OpenClaim := { program := "qxb6602597amods", sum := "81f1f950d452fb6530e5de70d925113c43b0ec388f8952d7245ce222b77b4ac8", func := "example.com/tuoguan/tuoguan/zzlaws_internal_book_b1.FnInQuotesMatchesTable", spec := "fnInQuotesMatchesTable", make := .lifted ["publicsums"], apart := false }
def FnInQuotesMatchesTableSaid : Prop := fnInQuotesMatchesTableRow.holds Trym.pinned (OpenSpec.ofChange fnInQuotesMatchesTableSpec)

/-- ITS FALSE NEIGHBOUR: 'it returns false'. Refute it at one input. -/
def fnInQuotesMatchesTableWrong : ChangeSpec := { name := "fnInQuotesMatchesTable", fn := fun _ => fun
  | [d] => { results := [.lit (.bool false)], args := [d] }
  | _ => none }
def FnInQuotesMatchesTableWrongFalsely : Prop := fnInQuotesMatchesTableRow.holds Trym.pinned (OpenSpec.ofChange fnInQuotesMatchesTableWrong)

/-- 'zzlaws_internal_book_b1.FnInQuotesConcat': WHATEVER THE INPUT: true; the input reads as it did. -/
def fnInQuotesConcatSpec : ChangeSpec := { name := "fnInQuotesConcat", fn := fun _ => fun
  | [d1, d2] => { results := [.lit (.bool true)], args := [d1, d2] }
  | _ => none }
def fnInQuotesConcatRow : OpenClaim := { program := "qxb6602597amods", sum := "81f1f950d452fb6530e5de70d925113c43b0ec388f8952d7245ce222b77b4ac8", func := "example.com/tuoguan/tuoguan/zzlaws_internal_book_b1.FnInQuotesConcat", spec := "fnInQuotesConcat", make := .lifted ["publicsums"], apart := false }
def FnInQuotesConcatSaid : Prop := fnInQuotesConcatRow.holds Trym.pinned (OpenSpec.ofChange fnInQuotesConcatSpec)

/-- ITS FALSE NEIGHBOUR: 'it returns false'. Refute it at one input. -/
def fnInQuotesConcatWrong : ChangeSpec := { name := "fnInQuotesConcat", fn := fun _ => fun
  | [d1, d2] => { results := [.lit (.bool false)], args := [d1, d2] }
  | _ => none }
def FnInQuotesConcatWrongFalsely : Prop := fnInQuotesConcatRow.holds Trym.pinned (OpenSpec.ofChange fnInQuotesConcatWrong)

/-- 'zzlaws_internal_book_b1.FnKeepWhole': WHATEVER THE INPUT: true; the input reads as it did. -/
def fnKeepWholeSpec : ChangeSpec := { name := "fnKeepWhole", fn := fun _ => fun
  | [d1, d2, d3] => { results := [.lit (.bool true)], args := [d1, d2, d3] }
  | _ => none }
def fnKeepWholeRow : OpenClaim := { program := "qxb6602597amods", sum := "81f1f950d452fb6530e5de70d925113c43b0ec388f8952d7245ce222b77b4ac8", func := "example.com/tuoguan/tuoguan/zzlaws_internal_book_b1.FnKeepWhole", spec := "fnKeepWhole", make := .lifted ["publicsums"], apart := false }
def FnKeepWholeSaid : Prop := fnKeepWholeRow.holds Trym.pinned (OpenSpec.ofChange fnKeepWholeSpec)

/-- ITS FALSE NEIGHBOUR: 'it returns false'. Refute it at one input. -/
def fnKeepWholeWrong : ChangeSpec := { name := "fnKeepWhole", fn := fun _ => fun
  | [d1, d2, d3] => { results := [.lit (.bool false)], args := [d1, d2, d3] }
  | _ => none }
def FnKeepWholeWrongFalsely : Prop := fnKeepWholeRow.holds Trym.pinned (OpenSpec.ofChange fnKeepWholeWrong)

/-- 'zzlaws_internal_book_b1.FnKeepInterns': WHATEVER THE INPUT: true; the input reads as it did. -/
def fnKeepInternsSpec : ChangeSpec := { name := "fnKeepInterns", fn := fun _ => fun
  | [d1, d2] => { results := [.lit (.bool true)], args := [d1, d2] }
  | _ => none }
def fnKeepInternsRow : OpenClaim := { program := "qxb6602597amods", sum := "81f1f950d452fb6530e5de70d925113c43b0ec388f8952d7245ce222b77b4ac8", func := "example.com/tuoguan/tuoguan/zzlaws_internal_book_b1.FnKeepInterns", spec := "fnKeepInterns", make := .lifted ["publicsums"], apart := false }
def FnKeepInternsSaid : Prop := fnKeepInternsRow.holds Trym.pinned (OpenSpec.ofChange fnKeepInternsSpec)

/-- ITS FALSE NEIGHBOUR: 'it returns false'. Refute it at one input. -/
def fnKeepInternsWrong : ChangeSpec := { name := "fnKeepInterns", fn := fun _ => fun
  | [d1, d2] => { results := [.lit (.bool false)], args := [d1, d2] }
  | _ => none }
def FnKeepInternsWrongFalsely : Prop := fnKeepInternsRow.holds Trym.pinned (OpenSpec.ofChange fnKeepInternsWrong)

end Rows
end Go.Proofs.Qxb6602597aMods
