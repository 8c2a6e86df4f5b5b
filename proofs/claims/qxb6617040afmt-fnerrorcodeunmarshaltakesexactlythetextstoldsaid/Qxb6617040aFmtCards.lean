/-
  DERIVED. GIVEN WITH THE SEED: THE CARDS: each row of Qxb6617040aFmtRows.lean that lists a variable, with what it lists TIED to the program's text (the seventh form; the later family's looks); each row that meets fmt, with fmt's text TOLD by the authors' own Lean function (tested against real Go, not proved from fmt's source: count such statements apart). THE CARD IS WHAT COUNTS. Prove the row's statement (the work); the ties are given (Qxb6617040aFmtTie.lean); close each card by the builder's one call (the guide's Derived/Test/ToyasCard.lean, 'card_holds'). Laid BY PROGRAM, IN A SANDBOX (cutbox-door.mjs). By AI agents, Wed Nov 11 2026. No macro, syntax, notation, axiom, sorry.
-/
import Derived.Test.Qxb6617040aFmtRows
import GoSem.ClaimSeven
namespace Go.Proofs.Qxb6617040aFmt
namespace Rows

/-- THE TOLD AND TIED CARD OF 'zzlaws_sale_b1.FnStateTextsAreDistinctWords'. -/
def fnStateTextsAreDistinctWordsCard : Claim7 := { stood := { row := fnStateTextsAreDistinctWordsRow, standIns := [], harness := (true, "8d992d36fee195bf00d3b9950677e1dead9484825cf0070b71aa17c00058679c"), looks := false }, told := true, laidByText := true, laidKinds := [.widerDeep], laidTests := true, laidLooks := .later, goes := false }
def FnStateTextsAreDistinctWordsToldSaid : Prop := Claim7.holds Tryf.pinned (.plain (OpenSpec.ofChange fnStateTextsAreDistinctWordsSpec)) fnStateTextsAreDistinctWordsCard
/-- ITS FALSE NEIGHBOUR. Refute it at one input. -/
def FnStateTextsAreDistinctWordsToldWrongFalsely : Prop := Claim7.holds Tryf.pinned (.plain (OpenSpec.ofChange fnStateTextsAreDistinctWordsWrong)) fnStateTextsAreDistinctWordsCard

/-- THE TOLD AND TIED CARD OF 'zzlaws_sale_b1.FnErrorCodeTextRoundTrip'. -/
def fnErrorCodeTextRoundTripCard : Claim7 := { stood := { row := fnErrorCodeTextRoundTripRow, standIns := [], harness := (true, "8d992d36fee195bf00d3b9950677e1dead9484825cf0070b71aa17c00058679c"), looks := false }, told := true, laidByText := true, laidKinds := [.sentinel, .widerDeep], laidTests := true, laidLooks := .later, goes := false }
def FnErrorCodeTextRoundTripToldSaid : Prop := Claim7.holds Tryf.pinned (.plain (OpenSpec.ofChange fnErrorCodeTextRoundTripSpec)) fnErrorCodeTextRoundTripCard
/-- ITS FALSE NEIGHBOUR. Refute it at one input. -/
def FnErrorCodeTextRoundTripToldWrongFalsely : Prop := Claim7.holds Tryf.pinned (.plain (OpenSpec.ofChange fnErrorCodeTextRoundTripWrong)) fnErrorCodeTextRoundTripCard

/-- THE TOLD AND TIED CARD OF 'zzlaws_sale_b1.FnErrorCodeUnmarshalTakesExactlyTheTexts'. -/
def fnErrorCodeUnmarshalTakesExactlyTheTextsCard : Claim7 := { stood := { row := fnErrorCodeUnmarshalTakesExactlyTheTextsRow, standIns := [], harness := (true, "8d992d36fee195bf00d3b9950677e1dead9484825cf0070b71aa17c00058679c"), looks := false }, told := true, laidByText := true, laidKinds := [.sentinel, .widerDeep], laidTests := true, laidLooks := .later, goes := false }
def FnErrorCodeUnmarshalTakesExactlyTheTextsToldSaid : Prop := Claim7.holds Tryf.pinned (.plain (OpenSpec.ofChange fnErrorCodeUnmarshalTakesExactlyTheTextsSpec)) fnErrorCodeUnmarshalTakesExactlyTheTextsCard
/-- ITS FALSE NEIGHBOUR. Refute it at one input. -/
def FnErrorCodeUnmarshalTakesExactlyTheTextsToldWrongFalsely : Prop := Claim7.holds Tryf.pinned (.plain (OpenSpec.ofChange fnErrorCodeUnmarshalTakesExactlyTheTextsWrong)) fnErrorCodeUnmarshalTakesExactlyTheTextsCard

/-- THE TOLD AND TIED CARD OF 'zzlaws_sale_b1.FnStateTextIsNoErrorCode'. -/
def fnStateTextIsNoErrorCodeCard : Claim7 := { stood := { row := fnStateTextIsNoErrorCodeRow, standIns := [], harness := (true, "8d992d36fee195bf00d3b9950677e1dead9484825cf0070b71aa17c00058679c"), looks := false }, told := true, laidByText := true, laidKinds := [.sentinel, .widerDeep, .widerDeep], laidTests := true, laidLooks := .later, goes := false }
def FnStateTextIsNoErrorCodeToldSaid : Prop := Claim7.holds Tryf.pinned (.plain (OpenSpec.ofChange fnStateTextIsNoErrorCodeSpec)) fnStateTextIsNoErrorCodeCard
/-- ITS FALSE NEIGHBOUR. Refute it at one input. -/
def FnStateTextIsNoErrorCodeToldWrongFalsely : Prop := Claim7.holds Tryf.pinned (.plain (OpenSpec.ofChange fnStateTextIsNoErrorCodeWrong)) fnStateTextIsNoErrorCodeCard
end Rows
end Go.Proofs.Qxb6617040aFmt
