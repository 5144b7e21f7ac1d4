/-
  DERIVED. GIVEN WITH THE SEED: THE CARDS: each row of Qxb6609109aFmtRows.lean that lists a variable, with what it lists TIED to the program's text (the seventh form; the later family's looks); each row that meets fmt, with fmt's text TOLD by the authors' own Lean function (tested against real Go, not proved from fmt's source: count such statements apart). THE CARD IS WHAT COUNTS. Prove the row's statement (the work); the ties are given (Qxb6609109aFmtTie.lean); close each card by the builder's one call (the guide's Derived/Test/ToyasCard.lean, 'card_holds'). Laid BY PROGRAM, IN A SANDBOX (cutbox-door.mjs). By AI agents, Wed Nov 11 2026. No macro, syntax, notation, axiom, sorry.
-/
import Derived.Test.Qxb6609109aFmtRows
import GoSem.ClaimSeven
namespace Go.Proofs.Qxb6609109aFmt
namespace Rows

/-- THE TOLD CARD OF 'zzlaws_root_b1.FnPerMinuteReadsInMinuteWindows'. -/
def fnPerMinuteReadsInMinuteWindowsCard : Claim7 := { stood := { row := fnPerMinuteReadsInMinuteWindowsRow, standIns := [], harness := (true, "9b1f67cc3c376f516c95dc3de5b163960132a20a3c962947b89f2b320c4454fe"), looks := false }, told := true, goes := false }
def FnPerMinuteReadsInMinuteWindowsToldSaid : Prop := Claim7.holds Tryf.pinned (.plain (OpenSpec.ofChange fnPerMinuteReadsInMinuteWindowsSpec)) fnPerMinuteReadsInMinuteWindowsCard
/-- ITS FALSE NEIGHBOUR. Refute it at one input. -/
def FnPerMinuteReadsInMinuteWindowsToldWrongFalsely : Prop := Claim7.holds Tryf.pinned (.plain (OpenSpec.ofChange fnPerMinuteReadsInMinuteWindowsWrong)) fnPerMinuteReadsInMinuteWindowsCard

/-- THE TOLD CARD OF 'zzlaws_root_b1.FnReadJudgesAtTheLaterWindowAndShiftsWithIt'. -/
def fnReadJudgesAtTheLaterWindowAndShiftsWithItCard : Claim7 := { stood := { row := fnReadJudgesAtTheLaterWindowAndShiftsWithItRow, standIns := [], harness := (true, "9b1f67cc3c376f516c95dc3de5b163960132a20a3c962947b89f2b320c4454fe"), looks := false }, told := true, goes := false }
def FnReadJudgesAtTheLaterWindowAndShiftsWithItToldSaid : Prop := Claim7.holds Tryf.pinned (.plain (OpenSpec.ofChange fnReadJudgesAtTheLaterWindowAndShiftsWithItSpec)) fnReadJudgesAtTheLaterWindowAndShiftsWithItCard
/-- ITS FALSE NEIGHBOUR. Refute it at one input. -/
def FnReadJudgesAtTheLaterWindowAndShiftsWithItToldWrongFalsely : Prop := Claim7.holds Tryf.pinned (.plain (OpenSpec.ofChange fnReadJudgesAtTheLaterWindowAndShiftsWithItWrong)) fnReadJudgesAtTheLaterWindowAndShiftsWithItCard

/-- THE TOLD CARD OF 'zzlaws_root_b1.FnReadCountBoundsOnlyRefusal'. -/
def fnReadCountBoundsOnlyRefusalCard : Claim7 := { stood := { row := fnReadCountBoundsOnlyRefusalRow, standIns := [], harness := (true, "9b1f67cc3c376f516c95dc3de5b163960132a20a3c962947b89f2b320c4454fe"), looks := false }, told := true, goes := false }
def FnReadCountBoundsOnlyRefusalToldSaid : Prop := Claim7.holds Tryf.pinned (.plain (OpenSpec.ofChange fnReadCountBoundsOnlyRefusalSpec)) fnReadCountBoundsOnlyRefusalCard
/-- ITS FALSE NEIGHBOUR. Refute it at one input. -/
def FnReadCountBoundsOnlyRefusalToldWrongFalsely : Prop := Claim7.holds Tryf.pinned (.plain (OpenSpec.ofChange fnReadCountBoundsOnlyRefusalWrong)) fnReadCountBoundsOnlyRefusalCard
end Rows
end Go.Proofs.Qxb6609109aFmt
