/-
  DERIVED. GIVEN WITH THE SEED: THE PROGRAM's TIES (one call each: nine closed facts by the kernel) AND EACH ROW's TIE, after the 31st guide's Derived/Test/Toyas{Tie, Card}.lean. No idea stands in it: it is a product of the set-up. Laid BY PROGRAM, IN A SANDBOX (cutbox-door.mjs). By AI agents, Wed Nov 11 2026. No macro, syntax, notation, axiom, sorry.
-/
import Derived.Test.Qxb6617040aFmtRows
import Derived.LaidByTextLater
import Derived.SevenTiedAt
import Derived.LaidSub
import Derived.LaidOnce
namespace Go.Proofs.Qxb6617040aFmt
open Go
set_option maxRecDepth 100000
theorem seatTie1 : Tryf.prog.laidByTextLater [("example.com/orders-without-oversell/orders-without-oversell/sale.ErrUnknownErrorCode", Rows.laid_example_com_orders_without_oversell_orders_without_oversell_sale_ErrUnknownErrorCode), ("example.com/orders-without-oversell/orders-without-oversell/sale.errorCodeWire", Rows.laid_example_com_orders_without_oversell_orders_without_oversell_sale_errorCodeWire), ("example.com/orders-without-oversell/orders-without-oversell/sale.stateWire", Rows.laid_example_com_orders_without_oversell_orders_without_oversell_sale_stateWire)] [.sentinel, .widerDeep, .widerDeep] true :=
  Program.laidByTextLater_by_one 53 8 23 (by kernel_rfl) (by kernel_rfl) (by kernel_rfl) (by kernel_rfl) (by kernel_rfl) (by kernel_rfl) (fun _ _ => by kernel_rfl)
theorem noOwnUnsafe : Tryf.pinned.checked.prog.headLifts.contains "ownunsafe" = false := by kernel_rfl
theorem tie : Tryf.prog.laidByTextLater [("example.com/orders-without-oversell/orders-without-oversell/sale.stateWire", Rows.laid_example_com_orders_without_oversell_orders_without_oversell_sale_stateWire)] [.widerDeep] true :=
  Program.laidByTextLater.sub seatTie1 ["example.com/orders-without-oversell/orders-without-oversell/sale.stateWire"] (by kernel_rfl) (by kernel_rfl)
theorem fnStateTextsAreDistinctWords_row_tie : Rows.fnStateTextsAreDistinctWordsRow.laidByTextAt .later Tryf.pinned [.widerDeep] true :=
  OpenClaim.laidByTextAt_later rfl rfl tie noOwnUnsafe
theorem tie2 : Tryf.prog.laidByTextLater [("example.com/orders-without-oversell/orders-without-oversell/sale.ErrUnknownErrorCode", Rows.laid_example_com_orders_without_oversell_orders_without_oversell_sale_ErrUnknownErrorCode), ("example.com/orders-without-oversell/orders-without-oversell/sale.errorCodeWire", Rows.laid_example_com_orders_without_oversell_orders_without_oversell_sale_errorCodeWire)] [.sentinel, .widerDeep] true :=
  Program.laidByTextLater.sub seatTie1 ["example.com/orders-without-oversell/orders-without-oversell/sale.ErrUnknownErrorCode", "example.com/orders-without-oversell/orders-without-oversell/sale.errorCodeWire"] (by kernel_rfl) (by kernel_rfl)
theorem fnErrorCodeTextRoundTrip_row_tie : Rows.fnErrorCodeTextRoundTripRow.laidByTextAt .later Tryf.pinned [.sentinel, .widerDeep] true :=
  OpenClaim.laidByTextAt_later rfl rfl tie2 noOwnUnsafe
theorem fnErrorCodeUnmarshalTakesExactlyTheTexts_row_tie : Rows.fnErrorCodeUnmarshalTakesExactlyTheTextsRow.laidByTextAt .later Tryf.pinned [.sentinel, .widerDeep] true :=
  OpenClaim.laidByTextAt_later rfl rfl tie2 noOwnUnsafe
theorem tie3 : Tryf.prog.laidByTextLater [("example.com/orders-without-oversell/orders-without-oversell/sale.ErrUnknownErrorCode", Rows.laid_example_com_orders_without_oversell_orders_without_oversell_sale_ErrUnknownErrorCode), ("example.com/orders-without-oversell/orders-without-oversell/sale.errorCodeWire", Rows.laid_example_com_orders_without_oversell_orders_without_oversell_sale_errorCodeWire), ("example.com/orders-without-oversell/orders-without-oversell/sale.stateWire", Rows.laid_example_com_orders_without_oversell_orders_without_oversell_sale_stateWire)] [.sentinel, .widerDeep, .widerDeep] true :=
  Program.laidByTextLater.sub seatTie1 ["example.com/orders-without-oversell/orders-without-oversell/sale.ErrUnknownErrorCode", "example.com/orders-without-oversell/orders-without-oversell/sale.errorCodeWire", "example.com/orders-without-oversell/orders-without-oversell/sale.stateWire"] (by kernel_rfl) (by kernel_rfl)
theorem fnStateTextIsNoErrorCode_row_tie : Rows.fnStateTextIsNoErrorCodeRow.laidByTextAt .later Tryf.pinned [.sentinel, .widerDeep, .widerDeep] true :=
  OpenClaim.laidByTextAt_later rfl rfl tie3 noOwnUnsafe
end Go.Proofs.Qxb6617040aFmt
