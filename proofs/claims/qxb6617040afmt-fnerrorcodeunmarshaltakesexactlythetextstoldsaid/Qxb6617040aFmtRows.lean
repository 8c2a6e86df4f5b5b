/-
  NARROWER THAN 'FOR EVERY INPUT', by the rows' own cells (each row's printed sentence says how): FnStateTextsAreDistinctWords: laid · FnErrorCodeTextRoundTrip: ifaces, laid · FnErrorCodeUnmarshalTakesExactlyTheTexts: ifaces, laid · FnStateTextIsNoErrorCode: ifaces, laid.
  DERIVED. THE GIVEN ROWS OF THIS SEAT. 4 by the template 'for every input the law returns true; each argument reads behind the call as it read before'; 0 by the template 'total and deterministic' (their statements: Qxb6617040aFmtTotals.lean).
  GIVEN WITH THE SEED: the statements are not yours to turn. If you find one false, say at which input.
  Laid BY PROGRAM, IN A SANDBOX (cutbox-rows.mjs): the forced cells as the released guide's own fill.sh prints them over the translation dd1206b40d4390b9… (all of the seat's roots in one cut). By AI agents, Wed Nov 11 2026. No macro, syntax, notation, axiom, sorry.
-/
import Derived.Test.Qxb6617040aFmtChecked
import GoSem.Claim
import GoSem.ClaimJoined
import GoSem.ClaimMapViews
import Derived.JoinedTies
import Derived.KernelRfl
namespace Go.Proofs.Qxb6617040aFmt
/- THE CELL 'sum', in the pinned program and in every row, IS THE sha256 OF THE DUMP (.gsa) THAT Qxb6617040aFmtProg.lean LOADS. Nothing in Lean hashes anything: it is a label: what it is worth is what the hold of that sum in a sandbox is worth. -/
noncomputable def Tryf.pinned : Pinned := { name := "qxb6617040afmt", sum := "dd1206b40d4390b9e8200e74e4d7bedc04811be9d46a9d808e54d63180ac12d3", checked := Tryf.checked }
namespace Rows
def none {H : Type} : Left H := { results := [], args := [] }

/- WHAT THE LISTED PACKAGE-LEVEL VARIABLES READ AS WHEN THE CALL BEGINS. Each datum BY PROGRAM (the guide's laid-datum.mjs) off the statement by which the dump's own 'gosem.cut.vars' lays the variable. In a bare row this is a premise. The card (Qxb6617040aFmtCards.lean) ties it to the program's text. -/
def laid_example_com_orders_without_oversell_orders_without_oversell_sale_stateWire {H : Type} : DataW H := .agg [.agg [.lit (.string []), .lit (.int .i64 0)], .agg [.lit (.string [111, 112, 101, 110]), .lit (.int .i64 0)], .agg [.lit (.string [115, 111, 108, 100, 95, 111, 117, 116]), .lit (.int .i64 0)], .agg [.lit (.string [110, 111, 116, 95, 111, 112, 101, 110]), .lit (.int .i64 0)], .agg [.lit (.string [99, 108, 111, 115, 101, 100]), .lit (.int .i64 0)], .agg [.lit (.string [112, 97, 117, 115, 101, 100]), .lit (.int .i64 0)]]
def laid_example_com_orders_without_oversell_orders_without_oversell_sale_ErrUnknownErrorCode {H : Type} : DataW H := .iface "*errors.errorString" (.ptr (.agg [.lit (.string [117, 110, 107, 110, 111, 119, 110, 32, 101, 114, 114, 111, 114, 32, 99, 111, 100, 101])]))
def laid_example_com_orders_without_oversell_orders_without_oversell_sale_errorCodeWire {H : Type} : DataW H := .agg [.agg [.lit (.string []), .lit (.int .i64 0)], .agg [.lit (.string [98, 97, 100, 95, 114, 101, 113, 117, 101, 115, 116]), .lit (.int .i64 400)], .agg [.lit (.string [115, 97, 108, 101, 95, 101, 120, 105, 115, 116, 115]), .lit (.int .i64 409)], .agg [.lit (.string [110, 111, 95, 115, 117, 99, 104, 95, 115, 97, 108, 101]), .lit (.int .i64 404)], .agg [.lit (.string [110, 111, 95, 115, 117, 99, 104, 95, 111, 114, 100, 101, 114]), .lit (.int .i64 404)], .agg [.lit (.string [110, 111, 116, 95, 102, 111, 117, 110, 100]), .lit (.int .i64 404)], .agg [.lit (.string [109, 101, 116, 104, 111, 100, 95, 110, 111, 116, 95, 97, 108, 108, 111, 119, 101, 100]), .lit (.int .i64 405)], .agg [.lit (.string [117, 110, 97, 118, 97, 105, 108, 97, 98, 108, 101]), .lit (.int .i64 503)], .agg [.lit (.string [117, 110, 97, 117, 116, 104, 111, 114, 105, 122, 101, 100]), .lit (.int .i64 401)], .agg [.lit (.string [111, 114, 100, 101, 114, 95, 114, 101, 108, 101, 97, 115, 101, 100]), .lit (.int .i64 409)], .agg [.lit (.string [111, 114, 100, 101, 114, 95, 99, 111, 110, 102, 105, 114, 109, 101, 100]), .lit (.int .i64 409)]]

/-- 'zzlaws_sale_b1.FnStateTextsAreDistinctWords': WHATEVER THE INPUT: true; the input reads as it did. -/
def fnStateTextsAreDistinctWordsSpec : ChangeSpec := { name := "fnStateTextsAreDistinctWords", vars := ["example.com/orders-without-oversell/orders-without-oversell/sale.stateWire"], fn := fun _ => fun
  | [d1, d2, g1] => { results := [.lit (.bool true)], args := [d1, d2], vars := [g1] }
  | _ => none }
def fnStateTextsAreDistinctWordsRow : OpenClaim := { program := "qxb6617040afmt", sum := "dd1206b40d4390b9e8200e74e4d7bedc04811be9d46a9d808e54d63180ac12d3", func := "example.com/orders-without-oversell/orders-without-oversell/zzlaws_sale_b1.FnStateTextsAreDistinctWords", spec := "fnStateTextsAreDistinctWords", stops := ["fmt.Sprintf", "fmt.errorf"], inPlace := ["fmt.Sprintf"], named := ["example.com/orders-without-oversell/orders-without-oversell/sale.stateWire"], apart := false, laid := [("example.com/orders-without-oversell/orders-without-oversell/sale.stateWire", laid_example_com_orders_without_oversell_orders_without_oversell_sale_stateWire)] }
/-- NO THEOREM (fmt's text is open here; it may be false): for the released tool's asking of the row's closed facts alone. THE STATEMENT IS 'FnStateTextsAreDistinctWordsToldSaid' (Qxb6617040aFmtCards.lean). -/
def FnStateTextsAreDistinctWordsFormAsk : Prop := fnStateTextsAreDistinctWordsRow.holds Tryf.pinned (OpenSpec.ofChange fnStateTextsAreDistinctWordsSpec)

/-- ITS FALSE NEIGHBOUR: 'it returns false'. Refute it at one input. -/
def fnStateTextsAreDistinctWordsWrong : ChangeSpec := { name := "fnStateTextsAreDistinctWords", vars := ["example.com/orders-without-oversell/orders-without-oversell/sale.stateWire"], fn := fun _ => fun
  | [d1, d2, g1] => { results := [.lit (.bool false)], args := [d1, d2], vars := [g1] }
  | _ => none }
def FnStateTextsAreDistinctWordsWrongFormAsk : Prop := fnStateTextsAreDistinctWordsRow.holds Tryf.pinned (OpenSpec.ofChange fnStateTextsAreDistinctWordsWrong)

/-- 'zzlaws_sale_b1.FnErrorCodeTextRoundTrip': WHATEVER THE INPUT: true; the input reads as it did. -/
def fnErrorCodeTextRoundTripSpec : ChangeSpec := { name := "fnErrorCodeTextRoundTrip", vars := ["example.com/orders-without-oversell/orders-without-oversell/sale.errorCodeWire", "example.com/orders-without-oversell/orders-without-oversell/sale.ErrUnknownErrorCode"], fn := fun _ => fun
  | [d, g1, g2] => { results := [.lit (.bool true)], args := [d], vars := [g1, g2] }
  | _ => none }
def fnErrorCodeTextRoundTripRow : OpenClaim := { program := "qxb6617040afmt", sum := "dd1206b40d4390b9e8200e74e4d7bedc04811be9d46a9d808e54d63180ac12d3", func := "example.com/orders-without-oversell/orders-without-oversell/zzlaws_sale_b1.FnErrorCodeTextRoundTrip", spec := "fnErrorCodeTextRoundTrip", stops := ["fmt.Sprintf", "fmt.errorf"], inPlace := ["fmt.Sprintf", "fmt.errorf"], named := ["example.com/orders-without-oversell/orders-without-oversell/sale.errorCodeWire", "example.com/orders-without-oversell/orders-without-oversell/sale.ErrUnknownErrorCode"], ifaces := true, apart := false, laid := [("example.com/orders-without-oversell/orders-without-oversell/sale.ErrUnknownErrorCode", laid_example_com_orders_without_oversell_orders_without_oversell_sale_ErrUnknownErrorCode), ("example.com/orders-without-oversell/orders-without-oversell/sale.errorCodeWire", laid_example_com_orders_without_oversell_orders_without_oversell_sale_errorCodeWire)] }
/-- NO THEOREM (fmt's text is open here; it may be false): for the released tool's asking of the row's closed facts alone. THE STATEMENT IS 'FnErrorCodeTextRoundTripToldSaid' (Qxb6617040aFmtCards.lean). -/
def FnErrorCodeTextRoundTripFormAsk : Prop := fnErrorCodeTextRoundTripRow.holds Tryf.pinned (OpenSpec.ofChange fnErrorCodeTextRoundTripSpec)

/-- ITS FALSE NEIGHBOUR: 'it returns false'. Refute it at one input. -/
def fnErrorCodeTextRoundTripWrong : ChangeSpec := { name := "fnErrorCodeTextRoundTrip", vars := ["example.com/orders-without-oversell/orders-without-oversell/sale.errorCodeWire", "example.com/orders-without-oversell/orders-without-oversell/sale.ErrUnknownErrorCode"], fn := fun _ => fun
  | [d, g1, g2] => { results := [.lit (.bool false)], args := [d], vars := [g1, g2] }
  | _ => none }
def FnErrorCodeTextRoundTripWrongFormAsk : Prop := fnErrorCodeTextRoundTripRow.holds Tryf.pinned (OpenSpec.ofChange fnErrorCodeTextRoundTripWrong)

/-- 'zzlaws_sale_b1.FnErrorCodeUnmarshalTakesExactlyTheTexts': WHATEVER THE INPUT: true; the input reads as it did. -/
def fnErrorCodeUnmarshalTakesExactlyTheTextsSpec : ChangeSpec := { name := "fnErrorCodeUnmarshalTakesExactlyTheTexts", vars := ["example.com/orders-without-oversell/orders-without-oversell/sale.errorCodeWire", "example.com/orders-without-oversell/orders-without-oversell/sale.ErrUnknownErrorCode"], fn := fun _ => fun
  | [d1, d2, g1, g2] => { results := [.lit (.bool true)], args := [d1, d2], vars := [g1, g2] }
  | _ => none }
def fnErrorCodeUnmarshalTakesExactlyTheTextsRow : OpenClaim := { program := "qxb6617040afmt", sum := "dd1206b40d4390b9e8200e74e4d7bedc04811be9d46a9d808e54d63180ac12d3", func := "example.com/orders-without-oversell/orders-without-oversell/zzlaws_sale_b1.FnErrorCodeUnmarshalTakesExactlyTheTexts", spec := "fnErrorCodeUnmarshalTakesExactlyTheTexts", stops := ["fmt.Sprintf", "fmt.errorf"], inPlace := ["fmt.errorf", "fmt.Sprintf"], named := ["example.com/orders-without-oversell/orders-without-oversell/sale.errorCodeWire", "example.com/orders-without-oversell/orders-without-oversell/sale.ErrUnknownErrorCode"], ifaces := true, apart := false, laid := [("example.com/orders-without-oversell/orders-without-oversell/sale.ErrUnknownErrorCode", laid_example_com_orders_without_oversell_orders_without_oversell_sale_ErrUnknownErrorCode), ("example.com/orders-without-oversell/orders-without-oversell/sale.errorCodeWire", laid_example_com_orders_without_oversell_orders_without_oversell_sale_errorCodeWire)] }
/-- NO THEOREM (fmt's text is open here; it may be false): for the released tool's asking of the row's closed facts alone. THE STATEMENT IS 'FnErrorCodeUnmarshalTakesExactlyTheTextsToldSaid' (Qxb6617040aFmtCards.lean). -/
def FnErrorCodeUnmarshalTakesExactlyTheTextsFormAsk : Prop := fnErrorCodeUnmarshalTakesExactlyTheTextsRow.holds Tryf.pinned (OpenSpec.ofChange fnErrorCodeUnmarshalTakesExactlyTheTextsSpec)

/-- ITS FALSE NEIGHBOUR: 'it returns false'. Refute it at one input. -/
def fnErrorCodeUnmarshalTakesExactlyTheTextsWrong : ChangeSpec := { name := "fnErrorCodeUnmarshalTakesExactlyTheTexts", vars := ["example.com/orders-without-oversell/orders-without-oversell/sale.errorCodeWire", "example.com/orders-without-oversell/orders-without-oversell/sale.ErrUnknownErrorCode"], fn := fun _ => fun
  | [d1, d2, g1, g2] => { results := [.lit (.bool false)], args := [d1, d2], vars := [g1, g2] }
  | _ => none }
def FnErrorCodeUnmarshalTakesExactlyTheTextsWrongFormAsk : Prop := fnErrorCodeUnmarshalTakesExactlyTheTextsRow.holds Tryf.pinned (OpenSpec.ofChange fnErrorCodeUnmarshalTakesExactlyTheTextsWrong)

/-- 'zzlaws_sale_b1.FnStateTextIsNoErrorCode': WHATEVER THE INPUT: true; the input reads as it did. -/
def fnStateTextIsNoErrorCodeSpec : ChangeSpec := { name := "fnStateTextIsNoErrorCode", vars := ["example.com/orders-without-oversell/orders-without-oversell/sale.stateWire", "example.com/orders-without-oversell/orders-without-oversell/sale.errorCodeWire", "example.com/orders-without-oversell/orders-without-oversell/sale.ErrUnknownErrorCode"], fn := fun _ => fun
  | [d1, d2, g1, g2, g3] => { results := [.lit (.bool true)], args := [d1, d2], vars := [g1, g2, g3] }
  | _ => none }
def fnStateTextIsNoErrorCodeRow : OpenClaim := { program := "qxb6617040afmt", sum := "dd1206b40d4390b9e8200e74e4d7bedc04811be9d46a9d808e54d63180ac12d3", func := "example.com/orders-without-oversell/orders-without-oversell/zzlaws_sale_b1.FnStateTextIsNoErrorCode", spec := "fnStateTextIsNoErrorCode", stops := ["fmt.Sprintf", "fmt.errorf"], inPlace := ["fmt.Sprintf", "fmt.errorf"], named := ["example.com/orders-without-oversell/orders-without-oversell/sale.stateWire", "example.com/orders-without-oversell/orders-without-oversell/sale.errorCodeWire", "example.com/orders-without-oversell/orders-without-oversell/sale.ErrUnknownErrorCode"], ifaces := true, apart := false, laid := [("example.com/orders-without-oversell/orders-without-oversell/sale.ErrUnknownErrorCode", laid_example_com_orders_without_oversell_orders_without_oversell_sale_ErrUnknownErrorCode), ("example.com/orders-without-oversell/orders-without-oversell/sale.errorCodeWire", laid_example_com_orders_without_oversell_orders_without_oversell_sale_errorCodeWire), ("example.com/orders-without-oversell/orders-without-oversell/sale.stateWire", laid_example_com_orders_without_oversell_orders_without_oversell_sale_stateWire)] }
/-- NO THEOREM (fmt's text is open here; it may be false): for the released tool's asking of the row's closed facts alone. THE STATEMENT IS 'FnStateTextIsNoErrorCodeToldSaid' (Qxb6617040aFmtCards.lean). -/
def FnStateTextIsNoErrorCodeFormAsk : Prop := fnStateTextIsNoErrorCodeRow.holds Tryf.pinned (OpenSpec.ofChange fnStateTextIsNoErrorCodeSpec)

/-- ITS FALSE NEIGHBOUR: 'it returns false'. Refute it at one input. -/
def fnStateTextIsNoErrorCodeWrong : ChangeSpec := { name := "fnStateTextIsNoErrorCode", vars := ["example.com/orders-without-oversell/orders-without-oversell/sale.stateWire", "example.com/orders-without-oversell/orders-without-oversell/sale.errorCodeWire", "example.com/orders-without-oversell/orders-without-oversell/sale.ErrUnknownErrorCode"], fn := fun _ => fun
  | [d1, d2, g1, g2, g3] => { results := [.lit (.bool false)], args := [d1, d2], vars := [g1, g2, g3] }
  | _ => none }
def FnStateTextIsNoErrorCodeWrongFormAsk : Prop := fnStateTextIsNoErrorCodeRow.holds Tryf.pinned (OpenSpec.ofChange fnStateTextIsNoErrorCodeWrong)

end Rows
end Go.Proofs.Qxb6617040aFmt
