/-
  DERIVED. GIVEN WITH THE SEED: THE CARDS: each row of Qxb6614863aDoorRows.lean that lists a variable, with what it lists TIED to the program's text (the seventh form; the later family's looks); each row that meets fmt, with fmt's text TOLD by the authors' own Lean function (tested against real Go, not proved from fmt's source: count such statements apart). THE CARD IS WHAT COUNTS. Prove the row's statement (the work); the ties are given (Qxb6614863aDoorTie.lean); close each card by the builder's one call (the guide's Derived/Test/ToyasCard.lean, 'card_holds'). Laid BY PROGRAM, IN A SANDBOX (cutbox-door.mjs). By AI agents, Wed Nov 11 2026. No macro, syntax, notation, axiom, sorry.
-/
import Derived.Test.Qxb6614863aDoorRows
import GoSem.ClaimSeven
namespace Go.Proofs.Qxb6614863aDoor
namespace Rows

/-- THE TIED CARD OF 'zzlaws_binlog_b1.FnDecimalSizeFourBytesPerNineDigitsEachSide'. -/
def fnDecimalSizeFourBytesPerNineDigitsEachSideCard : Claim7 := { stood := { row := fnDecimalSizeFourBytesPerNineDigitsEachSideRow, standIns := [], harness := (true, "efb658bbcd6ca282601ab254f0ff0bde70dcaf9413dcfe212ab258611eb67813"), looks := false }, kinds := [], alts := [], laidByText := true, laidKinds := [.data], laidTests := true, laidLooks := .later }
def FnDecimalSizeFourBytesPerNineDigitsEachSideCardSaid : Prop := Claim7.holds Tryd.pinned (.plain (OpenSpec.ofChange fnDecimalSizeFourBytesPerNineDigitsEachSideSpec)) fnDecimalSizeFourBytesPerNineDigitsEachSideCard

/-- THE TIED CARD OF 'zzlaws_binlog_b1.FnDecimalSizeNineMoreDigitsCostFourBytes'. -/
def fnDecimalSizeNineMoreDigitsCostFourBytesCard : Claim7 := { stood := { row := fnDecimalSizeNineMoreDigitsCostFourBytesRow, standIns := [], harness := (true, "efb658bbcd6ca282601ab254f0ff0bde70dcaf9413dcfe212ab258611eb67813"), looks := false }, kinds := [], alts := [], laidByText := true, laidKinds := [.data], laidTests := true, laidLooks := .later }
def FnDecimalSizeNineMoreDigitsCostFourBytesCardSaid : Prop := Claim7.holds Tryd.pinned (.plain (OpenSpec.ofChange fnDecimalSizeNineMoreDigitsCostFourBytesSpec)) fnDecimalSizeNineMoreDigitsCostFourBytesCard

/-- THE TIED CARD OF 'zzlaws_binlog_b1.FnGTIDStringAndAppendToAgreeWithText'. -/
def fnGTIDStringAndAppendToAgreeWithTextCard : Claim7 := { stood := { row := fnGTIDStringAndAppendToAgreeWithTextRow, standIns := [], harness := (true, "efb658bbcd6ca282601ab254f0ff0bde70dcaf9413dcfe212ab258611eb67813"), looks := false }, kinds := [], alts := [], laidByText := true, laidKinds := [.data, .data, .data], laidTests := true, laidLooks := .later }
def FnGTIDStringAndAppendToAgreeWithTextCardSaid : Prop := Claim7.holds Tryd.pinned (.plain (OpenSpec.ofChange fnGTIDStringAndAppendToAgreeWithTextSpec)) fnGTIDStringAndAppendToAgreeWithTextCard

/-- THE TIED CARD OF 'zzlaws_binlog_b1.FnGTIDStringIdentifiesSourceAndNumber'. -/
def fnGTIDStringIdentifiesSourceAndNumberCard : Claim7 := { stood := { row := fnGTIDStringIdentifiesSourceAndNumberRow, standIns := [], harness := (true, "efb658bbcd6ca282601ab254f0ff0bde70dcaf9413dcfe212ab258611eb67813"), looks := false }, kinds := [], alts := [], laidByText := true, laidKinds := [.data, .data, .data], laidTests := true, laidLooks := .later }
def FnGTIDStringIdentifiesSourceAndNumberCardSaid : Prop := Claim7.holds Tryd.pinned (.plain (OpenSpec.ofChange fnGTIDStringIdentifiesSourceAndNumberSpec)) fnGTIDStringIdentifiesSourceAndNumberCard
end Rows
end Go.Proofs.Qxb6614863aDoor
