/-
  DERIVED. GIVEN WITH THE SEED: THE PROGRAM's TIES (one call each: nine closed facts by the kernel) AND EACH ROW's TIE, after the 31st guide's Derived/Test/Toyas{Tie, Card}.lean. No idea stands in it: it is a product of the set-up. Laid BY PROGRAM, IN A SANDBOX (cutbox-door.mjs). By AI agents, Wed Nov 11 2026. No macro, syntax, notation, axiom, sorry.
-/
import Derived.Test.Qxb6614863aDoorRows
import Derived.LaidByTextLater
import Derived.SevenTiedAt
import Derived.LaidSub
import Derived.LaidOnce
namespace Go.Proofs.Qxb6614863aDoor
open Go
set_option maxRecDepth 100000
theorem seatTie1 : Tryd.prog.laidByTextLater [("math/bits.deBruijn32tab", Rows.laid_math_bits_deBruijn32tab), ("math/bits.deBruijn64tab", Rows.laid_math_bits_deBruijn64tab), ("internal/strconv.uint64pow10", Rows.laid_internal_strconv_uint64pow10), ("example.com/binrelay/binrelay/binlog.decimalGroupBytes", Rows.laid_example_com_binrelay_binrelay_binlog_decimalGroupBytes)] [.data, .data, .data, .data] true :=
  Program.laidByTextLater_by_one 29 8 65 (by kernel_rfl) (by kernel_rfl) (by kernel_rfl) (by kernel_rfl) (by kernel_rfl) (by kernel_rfl) (fun _ _ => by kernel_rfl)
theorem noOwnUnsafe : Tryd.pinned.checked.prog.headLifts.contains "ownunsafe" = false := by kernel_rfl
theorem tie : Tryd.prog.laidByTextLater [("example.com/binrelay/binrelay/binlog.decimalGroupBytes", Rows.laid_example_com_binrelay_binrelay_binlog_decimalGroupBytes)] [.data] true :=
  Program.laidByTextLater.sub seatTie1 ["example.com/binrelay/binrelay/binlog.decimalGroupBytes"] (by kernel_rfl) (by kernel_rfl)
theorem fnDecimalSizeFourBytesPerNineDigitsEachSide_row_tie : Rows.fnDecimalSizeFourBytesPerNineDigitsEachSideRow.laidByTextAt .later Tryd.pinned [.data] true :=
  OpenClaim.laidByTextAt_later rfl rfl tie noOwnUnsafe
theorem fnDecimalSizeNineMoreDigitsCostFourBytes_row_tie : Rows.fnDecimalSizeNineMoreDigitsCostFourBytesRow.laidByTextAt .later Tryd.pinned [.data] true :=
  OpenClaim.laidByTextAt_later rfl rfl tie noOwnUnsafe
theorem tie2 : Tryd.prog.laidByTextLater [("math/bits.deBruijn32tab", Rows.laid_math_bits_deBruijn32tab), ("math/bits.deBruijn64tab", Rows.laid_math_bits_deBruijn64tab), ("internal/strconv.uint64pow10", Rows.laid_internal_strconv_uint64pow10)] [.data, .data, .data] true :=
  Program.laidByTextLater.sub seatTie1 ["math/bits.deBruijn32tab", "math/bits.deBruijn64tab", "internal/strconv.uint64pow10"] (by kernel_rfl) (by kernel_rfl)
theorem fnGTIDStringAndAppendToAgreeWithText_row_tie : Rows.fnGTIDStringAndAppendToAgreeWithTextRow.laidByTextAt .later Tryd.pinned [.data, .data, .data] true :=
  OpenClaim.laidByTextAt_later rfl rfl tie2 noOwnUnsafe
theorem fnGTIDStringIdentifiesSourceAndNumber_row_tie : Rows.fnGTIDStringIdentifiesSourceAndNumberRow.laidByTextAt .later Tryd.pinned [.data, .data, .data] true :=
  OpenClaim.laidByTextAt_later rfl rfl tie2 noOwnUnsafe
end Go.Proofs.Qxb6614863aDoor
