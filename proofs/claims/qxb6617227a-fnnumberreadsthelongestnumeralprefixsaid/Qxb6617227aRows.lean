/-
  No cell of these rows narrows 'for every input' (looked for: loops, veiled, ifaces, maps, wideKeys, modest, calm, conditions, laid).
  DERIVED. THE GIVEN ROWS OF THIS SEAT. 6 by the template 'for every input the law returns true; each argument reads behind the call as it read before'; 0 by the template 'total and deterministic' (their statements: Qxb6617227aTotals.lean).
  GIVEN WITH THE SEED: the statements are not yours to turn. If you find one false, say at which input.
  Laid BY PROGRAM, IN A SANDBOX (cutbox-rows.mjs): the forced cells as the released guide's own fill.sh prints them over the translation c19733d3d4de41a2… (all of the seat's roots in one cut). By AI agents, Wed Nov 11 2026. No macro, syntax, notation, axiom, sorry.
-/
import Derived.Test.Qxb6617227aChecked
import GoSem.Claim
import GoSem.ClaimJoined
import GoSem.ClaimMapViews
import Derived.JoinedTies
import Derived.KernelRfl
namespace Go.Proofs.Qxb6617227a
/- THE CELL 'sum', in the pinned program and in every row, IS THE sha256 OF THE DUMP (.gsa) THAT Qxb6617227aProg.lean LOADS. Nothing in Lean hashes anything: it is a label: what it is worth is what the hold of that sum in a sandbox is worth. -/
noncomputable def Try.pinned : Pinned := { name := "qxb6617227a", sum := "c19733d3d4de41a252e7296310a9171ba2b3b79de36e3243898b305094acbd87", checked := Try.checked }
namespace Rows
def none {H : Type} : Left H := { results := [], args := [] }

/-- 'zzlaws_internal_syntax_b1.FnSkipBlanksAgreesWithALineByLineReading': WHATEVER THE INPUT: true; the input reads as it did. -/
def fnSkipBlanksAgreesWithALineByLineReadingSpec : ChangeSpec := { name := "fnSkipBlanksAgreesWithALineByLineReading", fn := fun _ => fun
  | [d1, d2] => { results := [.lit (.bool true)], args := [d1, d2] }
  | _ => none }
def fnSkipBlanksAgreesWithALineByLineReadingRow : OpenClaim := { program := "qxb6617227a", sum := "c19733d3d4de41a252e7296310a9171ba2b3b79de36e3243898b305094acbd87", func := "example.com/undolane/undolane/zzlaws_internal_syntax_b1.FnSkipBlanksAgreesWithALineByLineReading", spec := "fnSkipBlanksAgreesWithALineByLineReading", inPlace := ["internal/bytealg.IndexByteString"], apart := false }
def FnSkipBlanksAgreesWithALineByLineReadingSaid : Prop := fnSkipBlanksAgreesWithALineByLineReadingRow.holds Try.pinned (OpenSpec.ofChange fnSkipBlanksAgreesWithALineByLineReadingSpec)

/-- ITS FALSE NEIGHBOUR: 'it returns false'. Refute it at one input. -/
def fnSkipBlanksAgreesWithALineByLineReadingWrong : ChangeSpec := { name := "fnSkipBlanksAgreesWithALineByLineReading", fn := fun _ => fun
  | [d1, d2] => { results := [.lit (.bool false)], args := [d1, d2] }
  | _ => none }
def FnSkipBlanksAgreesWithALineByLineReadingWrongFalsely : Prop := fnSkipBlanksAgreesWithALineByLineReadingRow.holds Try.pinned (OpenSpec.ofChange fnSkipBlanksAgreesWithALineByLineReadingWrong)

/-- 'zzlaws_internal_syntax_b1.FnSkipBlanksStopsAtATokenStart': WHATEVER THE INPUT: true; the input reads as it did. -/
def fnSkipBlanksStopsAtATokenStartSpec : ChangeSpec := { name := "fnSkipBlanksStopsAtATokenStart", fn := fun _ => fun
  | [d1, d2] => { results := [.lit (.bool true)], args := [d1, d2] }
  | _ => none }
def fnSkipBlanksStopsAtATokenStartRow : OpenClaim := { program := "qxb6617227a", sum := "c19733d3d4de41a252e7296310a9171ba2b3b79de36e3243898b305094acbd87", func := "example.com/undolane/undolane/zzlaws_internal_syntax_b1.FnSkipBlanksStopsAtATokenStart", spec := "fnSkipBlanksStopsAtATokenStart", inPlace := ["internal/bytealg.IndexByteString"], apart := false }
def FnSkipBlanksStopsAtATokenStartSaid : Prop := fnSkipBlanksStopsAtATokenStartRow.holds Try.pinned (OpenSpec.ofChange fnSkipBlanksStopsAtATokenStartSpec)

/-- ITS FALSE NEIGHBOUR: 'it returns false'. Refute it at one input. -/
def fnSkipBlanksStopsAtATokenStartWrong : ChangeSpec := { name := "fnSkipBlanksStopsAtATokenStart", fn := fun _ => fun
  | [d1, d2] => { results := [.lit (.bool false)], args := [d1, d2] }
  | _ => none }
def FnSkipBlanksStopsAtATokenStartWrongFalsely : Prop := fnSkipBlanksStopsAtATokenStartRow.holds Try.pinned (OpenSpec.ofChange fnSkipBlanksStopsAtATokenStartWrong)

/-- 'zzlaws_internal_syntax_b1.FnTextEndClosesAtTheFirstOddRunOfQuotes': WHATEVER THE INPUT: true; the input reads as it did. -/
def fnTextEndClosesAtTheFirstOddRunOfQuotesSpec : ChangeSpec := { name := "fnTextEndClosesAtTheFirstOddRunOfQuotes", fn := fun _ => fun
  | [d1, d2] => { results := [.lit (.bool true)], args := [d1, d2] }
  | _ => none }
def fnTextEndClosesAtTheFirstOddRunOfQuotesRow : OpenClaim := { program := "qxb6617227a", sum := "c19733d3d4de41a252e7296310a9171ba2b3b79de36e3243898b305094acbd87", func := "example.com/undolane/undolane/zzlaws_internal_syntax_b1.FnTextEndClosesAtTheFirstOddRunOfQuotes", spec := "fnTextEndClosesAtTheFirstOddRunOfQuotes", inPlace := ["internal/bytealg.IndexByteString"], apart := false }
def FnTextEndClosesAtTheFirstOddRunOfQuotesSaid : Prop := fnTextEndClosesAtTheFirstOddRunOfQuotesRow.holds Try.pinned (OpenSpec.ofChange fnTextEndClosesAtTheFirstOddRunOfQuotesSpec)

/-- ITS FALSE NEIGHBOUR: 'it returns false'. Refute it at one input. -/
def fnTextEndClosesAtTheFirstOddRunOfQuotesWrong : ChangeSpec := { name := "fnTextEndClosesAtTheFirstOddRunOfQuotes", fn := fun _ => fun
  | [d1, d2] => { results := [.lit (.bool false)], args := [d1, d2] }
  | _ => none }
def FnTextEndClosesAtTheFirstOddRunOfQuotesWrongFalsely : Prop := fnTextEndClosesAtTheFirstOddRunOfQuotesRow.holds Try.pinned (OpenSpec.ofChange fnTextEndClosesAtTheFirstOddRunOfQuotesWrong)

/-- 'zzlaws_internal_syntax_b1.FnTextEndClosesAfterADoubledBody': WHATEVER THE INPUT: true; the input reads as it did. -/
def fnTextEndClosesAfterADoubledBodySpec : ChangeSpec := { name := "fnTextEndClosesAfterADoubledBody", fn := fun _ => fun
  | [d1, d2, d3] => { results := [.lit (.bool true)], args := [d1, d2, d3] }
  | _ => none }
def fnTextEndClosesAfterADoubledBodyRow : OpenClaim := { program := "qxb6617227a", sum := "c19733d3d4de41a252e7296310a9171ba2b3b79de36e3243898b305094acbd87", func := "example.com/undolane/undolane/zzlaws_internal_syntax_b1.FnTextEndClosesAfterADoubledBody", spec := "fnTextEndClosesAfterADoubledBody", inPlace := ["internal/bytealg.IndexByteString"], apart := false }
def FnTextEndClosesAfterADoubledBodySaid : Prop := fnTextEndClosesAfterADoubledBodyRow.holds Try.pinned (OpenSpec.ofChange fnTextEndClosesAfterADoubledBodySpec)

/-- ITS FALSE NEIGHBOUR: 'it returns false'. Refute it at one input. -/
def fnTextEndClosesAfterADoubledBodyWrong : ChangeSpec := { name := "fnTextEndClosesAfterADoubledBody", fn := fun _ => fun
  | [d1, d2, d3] => { results := [.lit (.bool false)], args := [d1, d2, d3] }
  | _ => none }
def FnTextEndClosesAfterADoubledBodyWrongFalsely : Prop := fnTextEndClosesAfterADoubledBodyRow.holds Try.pinned (OpenSpec.ofChange fnTextEndClosesAfterADoubledBodyWrong)

/-- 'zzlaws_internal_syntax_b1.FnNumberReadsTheLongestNumeralPrefix': WHATEVER THE INPUT: true; the input reads as it did. -/
def fnNumberReadsTheLongestNumeralPrefixSpec : ChangeSpec := { name := "fnNumberReadsTheLongestNumeralPrefix", fn := fun _ => fun
  | [d1, d2] => { results := [.lit (.bool true)], args := [d1, d2] }
  | _ => none }
def fnNumberReadsTheLongestNumeralPrefixRow : OpenClaim := { program := "qxb6617227a", sum := "c19733d3d4de41a252e7296310a9171ba2b3b79de36e3243898b305094acbd87", func := "example.com/undolane/undolane/zzlaws_internal_syntax_b1.FnNumberReadsTheLongestNumeralPrefix", spec := "fnNumberReadsTheLongestNumeralPrefix", apart := false }
def FnNumberReadsTheLongestNumeralPrefixSaid : Prop := fnNumberReadsTheLongestNumeralPrefixRow.holds Try.pinned (OpenSpec.ofChange fnNumberReadsTheLongestNumeralPrefixSpec)

/-- ITS FALSE NEIGHBOUR: 'it returns false'. Refute it at one input. -/
def fnNumberReadsTheLongestNumeralPrefixWrong : ChangeSpec := { name := "fnNumberReadsTheLongestNumeralPrefix", fn := fun _ => fun
  | [d1, d2] => { results := [.lit (.bool false)], args := [d1, d2] }
  | _ => none }
def FnNumberReadsTheLongestNumeralPrefixWrongFalsely : Prop := fnNumberReadsTheLongestNumeralPrefixRow.holds Try.pinned (OpenSpec.ofChange fnNumberReadsTheLongestNumeralPrefixWrong)

/-- 'zzlaws_internal_syntax_b1.FnNumberIgnoresTextPastItsEnd': WHATEVER THE INPUT: true; the input reads as it did. -/
def fnNumberIgnoresTextPastItsEndSpec : ChangeSpec := { name := "fnNumberIgnoresTextPastItsEnd", fn := fun _ => fun
  | [d1, d2, d3] => { results := [.lit (.bool true)], args := [d1, d2, d3] }
  | _ => none }
def fnNumberIgnoresTextPastItsEndRow : OpenClaim := { program := "qxb6617227a", sum := "c19733d3d4de41a252e7296310a9171ba2b3b79de36e3243898b305094acbd87", func := "example.com/undolane/undolane/zzlaws_internal_syntax_b1.FnNumberIgnoresTextPastItsEnd", spec := "fnNumberIgnoresTextPastItsEnd", apart := false }
def FnNumberIgnoresTextPastItsEndSaid : Prop := fnNumberIgnoresTextPastItsEndRow.holds Try.pinned (OpenSpec.ofChange fnNumberIgnoresTextPastItsEndSpec)

/-- ITS FALSE NEIGHBOUR: 'it returns false'. Refute it at one input. -/
def fnNumberIgnoresTextPastItsEndWrong : ChangeSpec := { name := "fnNumberIgnoresTextPastItsEnd", fn := fun _ => fun
  | [d1, d2, d3] => { results := [.lit (.bool false)], args := [d1, d2, d3] }
  | _ => none }
def FnNumberIgnoresTextPastItsEndWrongFalsely : Prop := fnNumberIgnoresTextPastItsEndRow.holds Try.pinned (OpenSpec.ofChange fnNumberIgnoresTextPastItsEndWrong)

end Rows
end Go.Proofs.Qxb6617227a
