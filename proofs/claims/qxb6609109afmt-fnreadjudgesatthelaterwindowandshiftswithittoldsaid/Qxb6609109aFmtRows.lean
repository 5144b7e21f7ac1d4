/-
  No cell of these rows narrows 'for every input' (looked for: loops, veiled, ifaces, maps, wideKeys, modest, calm, conditions, laid).
  DERIVED. THE GIVEN ROWS OF THIS SEAT. 3 by the template 'for every input the law returns true; each argument reads behind the call as it read before'; 0 by the template 'total and deterministic' (their statements: Qxb6609109aFmtTotals.lean).
  GIVEN WITH THE SEED: the statements are not yours to turn. If you find one false, say at which input.
  Laid BY PROGRAM, IN A SANDBOX (cutbox-rows.mjs): the forced cells as the released guide's own fill.sh prints them over the translation da4272703aa93ebc… (all of the seat's roots in one cut). By AI agents, Wed Nov 11 2026. No macro, syntax, notation, axiom, sorry.
-/
import Derived.Test.Qxb6609109aFmtChecked
import GoSem.Claim
import GoSem.ClaimJoined
import GoSem.ClaimMapViews
import Derived.JoinedTies
import Derived.KernelRfl
namespace Go.Proofs.Qxb6609109aFmt
/- THE CELL 'sum', in the pinned program and in every row, IS THE sha256 OF THE DUMP (.gsa) THAT Qxb6609109aFmtProg.lean LOADS. Nothing in Lean hashes anything: it is a label: what it is worth is what the hold of that sum in a sandbox is worth. -/
noncomputable def Tryf.pinned : Pinned := { name := "qxb6609109afmt", sum := "da4272703aa93ebceef84ccfaa4fb1cdee3ebcfb0d41d2af8eb167b694f4a8ff", checked := Tryf.checked }
namespace Rows
def none {H : Type} : Left H := { results := [], args := [] }

/-- 'zzlaws_root_b1.FnPerMinuteReadsInMinuteWindows': WHATEVER THE INPUT: true; the input reads as it did. -/
def fnPerMinuteReadsInMinuteWindowsSpec : ChangeSpec := { name := "fnPerMinuteReadsInMinuteWindows", fn := fun _ => fun
  | [d1, d2, d3] => { results := [.lit (.bool true)], args := [d1, d2, d3] }
  | _ => none }
def fnPerMinuteReadsInMinuteWindowsRow : OpenClaim := { program := "qxb6609109afmt", sum := "da4272703aa93ebceef84ccfaa4fb1cdee3ebcfb0d41d2af8eb167b694f4a8ff", func := "example.com/valv/valv/zzlaws_root_b1.FnPerMinuteReadsInMinuteWindows", spec := "fnPerMinuteReadsInMinuteWindows", stops := ["fmt.errorf"], inPlace := ["fmt.errorf"], named := ["math/bits.divideError", "math/bits.overflowError"], apart := false }
/-- NO THEOREM (fmt's text is open here; it may be false): for the released tool's asking of the row's closed facts alone. THE STATEMENT IS 'FnPerMinuteReadsInMinuteWindowsToldSaid' (Qxb6609109aFmtCards.lean). -/
def FnPerMinuteReadsInMinuteWindowsFormAsk : Prop := fnPerMinuteReadsInMinuteWindowsRow.holds Tryf.pinned (OpenSpec.ofChange fnPerMinuteReadsInMinuteWindowsSpec)

/-- ITS FALSE NEIGHBOUR: 'it returns false'. Refute it at one input. -/
def fnPerMinuteReadsInMinuteWindowsWrong : ChangeSpec := { name := "fnPerMinuteReadsInMinuteWindows", fn := fun _ => fun
  | [d1, d2, d3] => { results := [.lit (.bool false)], args := [d1, d2, d3] }
  | _ => none }
def FnPerMinuteReadsInMinuteWindowsWrongFormAsk : Prop := fnPerMinuteReadsInMinuteWindowsRow.holds Tryf.pinned (OpenSpec.ofChange fnPerMinuteReadsInMinuteWindowsWrong)

/-- 'zzlaws_root_b1.FnReadJudgesAtTheLaterWindowAndShiftsWithIt': WHATEVER THE INPUT: true; the input reads as it did. -/
def fnReadJudgesAtTheLaterWindowAndShiftsWithItSpec : ChangeSpec := { name := "fnReadJudgesAtTheLaterWindowAndShiftsWithIt", fn := fun _ => fun
  | [d1, d2, d3, d4, d5] => { results := [.lit (.bool true)], args := [d1, d2, d3, d4, d5] }
  | _ => none }
def fnReadJudgesAtTheLaterWindowAndShiftsWithItRow : OpenClaim := { program := "qxb6609109afmt", sum := "da4272703aa93ebceef84ccfaa4fb1cdee3ebcfb0d41d2af8eb167b694f4a8ff", func := "example.com/valv/valv/zzlaws_root_b1.FnReadJudgesAtTheLaterWindowAndShiftsWithIt", spec := "fnReadJudgesAtTheLaterWindowAndShiftsWithIt", stops := ["fmt.errorf"], inPlace := ["fmt.errorf"], named := ["math/bits.divideError", "math/bits.overflowError"], apart := false }
/-- NO THEOREM (fmt's text is open here; it may be false): for the released tool's asking of the row's closed facts alone. THE STATEMENT IS 'FnReadJudgesAtTheLaterWindowAndShiftsWithItToldSaid' (Qxb6609109aFmtCards.lean). -/
def FnReadJudgesAtTheLaterWindowAndShiftsWithItFormAsk : Prop := fnReadJudgesAtTheLaterWindowAndShiftsWithItRow.holds Tryf.pinned (OpenSpec.ofChange fnReadJudgesAtTheLaterWindowAndShiftsWithItSpec)

/-- ITS FALSE NEIGHBOUR: 'it returns false'. Refute it at one input. -/
def fnReadJudgesAtTheLaterWindowAndShiftsWithItWrong : ChangeSpec := { name := "fnReadJudgesAtTheLaterWindowAndShiftsWithIt", fn := fun _ => fun
  | [d1, d2, d3, d4, d5] => { results := [.lit (.bool false)], args := [d1, d2, d3, d4, d5] }
  | _ => none }
def FnReadJudgesAtTheLaterWindowAndShiftsWithItWrongFormAsk : Prop := fnReadJudgesAtTheLaterWindowAndShiftsWithItRow.holds Tryf.pinned (OpenSpec.ofChange fnReadJudgesAtTheLaterWindowAndShiftsWithItWrong)

/-- 'zzlaws_root_b1.FnReadCountBoundsOnlyRefusal': WHATEVER THE INPUT: true; the input reads as it did. -/
def fnReadCountBoundsOnlyRefusalSpec : ChangeSpec := { name := "fnReadCountBoundsOnlyRefusal", fn := fun _ => fun
  | [d1, d2, d3, d4, d5, d6] => { results := [.lit (.bool true)], args := [d1, d2, d3, d4, d5, d6] }
  | _ => none }
def fnReadCountBoundsOnlyRefusalRow : OpenClaim := { program := "qxb6609109afmt", sum := "da4272703aa93ebceef84ccfaa4fb1cdee3ebcfb0d41d2af8eb167b694f4a8ff", func := "example.com/valv/valv/zzlaws_root_b1.FnReadCountBoundsOnlyRefusal", spec := "fnReadCountBoundsOnlyRefusal", stops := ["fmt.errorf"], inPlace := ["fmt.errorf"], named := ["math/bits.divideError", "math/bits.overflowError"], apart := false }
/-- NO THEOREM (fmt's text is open here; it may be false): for the released tool's asking of the row's closed facts alone. THE STATEMENT IS 'FnReadCountBoundsOnlyRefusalToldSaid' (Qxb6609109aFmtCards.lean). -/
def FnReadCountBoundsOnlyRefusalFormAsk : Prop := fnReadCountBoundsOnlyRefusalRow.holds Tryf.pinned (OpenSpec.ofChange fnReadCountBoundsOnlyRefusalSpec)

/-- ITS FALSE NEIGHBOUR: 'it returns false'. Refute it at one input. -/
def fnReadCountBoundsOnlyRefusalWrong : ChangeSpec := { name := "fnReadCountBoundsOnlyRefusal", fn := fun _ => fun
  | [d1, d2, d3, d4, d5, d6] => { results := [.lit (.bool false)], args := [d1, d2, d3, d4, d5, d6] }
  | _ => none }
def FnReadCountBoundsOnlyRefusalWrongFormAsk : Prop := fnReadCountBoundsOnlyRefusalRow.holds Tryf.pinned (OpenSpec.ofChange fnReadCountBoundsOnlyRefusalWrong)

end Rows
end Go.Proofs.Qxb6609109aFmt
