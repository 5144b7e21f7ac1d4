/-
  DERIVED. GIVEN WITH THE SEED: THE CARDS: each row of Qxb6614734aDoorRows.lean that lists a variable, with what it lists TIED to the program's text (the seventh form; the later family's looks); each row that meets fmt, with fmt's text TOLD by the authors' own Lean function (tested against real Go, not proved from fmt's source: count such statements apart). THE CARD IS WHAT COUNTS. Prove the row's statement (the work); the ties are given (Qxb6614734aDoorTie.lean); close each card by the builder's one call (the guide's Derived/Test/ToyasCard.lean, 'card_holds'). Laid BY PROGRAM, IN A SANDBOX (cutbox-door.mjs). By AI agents, Wed Nov 11 2026. No macro, syntax, notation, axiom, sorry.
-/
import Derived.Test.Qxb6614734aDoorRows
import GoSem.ClaimSeven
namespace Go.Proofs.Qxb6614734aDoor
namespace Rows

/-- THE TIED CARD OF 'zzlaws_internal_authfile_b1.FnParseIDReadsBackDecimalNames'. -/
def fnParseIDReadsBackDecimalNamesCard : Claim7 := { stood := { row := fnParseIDReadsBackDecimalNamesRow, standIns := [], harness := (true, "f8d5cfa2c3798664ce82e0fb832e73db6fda1a07b367835a3fdfb8c7b8a485c1"), looks := true }, kinds := [], alts := [], laidByText := true, laidKinds := [.data, .data, .data, .sentinel, .sentinel], laidTests := true, laidLooks := .later }
def FnParseIDReadsBackDecimalNamesCardSaid : Prop := Claim7.holds Tryd.pinned (.plain (OpenSpec.ofChange fnParseIDReadsBackDecimalNamesSpec)) fnParseIDReadsBackDecimalNamesCard

/-- THE TIED CARD OF 'zzlaws_internal_authfile_b1.FnParseIDMatchesNumeralGrammar'. -/
def fnParseIDMatchesNumeralGrammarCard : Claim7 := { stood := { row := fnParseIDMatchesNumeralGrammarRow, standIns := [], harness := (true, "f8d5cfa2c3798664ce82e0fb832e73db6fda1a07b367835a3fdfb8c7b8a485c1"), looks := true }, kinds := [], alts := [], laidByText := true, laidKinds := [.data, .data, .data, .sentinel, .sentinel], laidTests := true, laidLooks := .later }
def FnParseIDMatchesNumeralGrammarCardSaid : Prop := Claim7.holds Tryd.pinned (.plain (OpenSpec.ofChange fnParseIDMatchesNumeralGrammarSpec)) fnParseIDMatchesNumeralGrammarCard
end Rows
end Go.Proofs.Qxb6614734aDoor
