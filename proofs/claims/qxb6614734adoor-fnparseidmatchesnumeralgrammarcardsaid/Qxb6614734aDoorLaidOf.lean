/-
  WHAT THE ROWS' LISTED VARIABLES GIVE THE WALKS ('Laid'): the table of powers and the two sentinels; and one start that fits.
-/
import Derived.Test.Qxb6614734aDoorNames
import Derived.Test.Qxb6614734aDoorRows
import Derived.Stop.LaidErr
import Derived.ProofKit
import Derived.LaidMore
import Derived.Lib.LaidTab
namespace Go.Proofs.Qxb6614734aDoor
open Go.RowKit

/-- The listed variables, the same in both rows. -/
abbrev laidList : List (String × DataW Unit) := Rows.fnParseIDReadsBackDecimalNamesRow.laid
theorem laidList_two : Rows.fnParseIDMatchesNumeralGrammarRow.laid = laidList := rfl

/-- The name of the dynamic type of the two listed errors, as the row has it, and of the type that it points to. -/
def errName : String := match (Rows.laid_strconv_ErrRange : DataW Unit) with
  | .iface nm _ => nm
  | _ => ""
def bareName : String := "errors.errorString"
theorem errName_is : errName.toList = Char.ofNat 42 :: bareName.toList := by decide
theorem ptrRow (u : TypeId) (h : Tryd.prog.typeName? 3 u = some errName) : u = 67 := by
  have e : ∀ s : String, s.toList = [Char.ofNat 42] → s ++ bareName = errName := by
    intro s hs
    apply String.toList_inj.1
    rw [String.toList_append, hs, errName_is]
    rfl
  have t := @typeName_ptr_named Tryd.prog bareName 67
  rw [e] at t
  · exact t (by kernel_rfl) (by kernel_rfl) (by decide) u h
  · decide
theorem gT0 : (Tryd.prog.globals[0]?).map (·.type) = some 37 := by kernel_rfl
theorem gT1 : (Tryd.prog.globals[1]?).map (·.type) = some 37 := by kernel_rfl
theorem gT2 : (Tryd.prog.globals[2]?).map (·.type) = some 61 := by kernel_rfl
theorem cells69 : Tryd.prog.cellsOf 69 = 1 := by kernel_rfl
theorem cells9 : Tryd.prog.cellsOf 9 = 1 := by kernel_rfl
theorem cells61 : Tryd.prog.cellsOf 61 = 20 := by kernel_rfl

theorem laid_of {W : World} (h : laidMetH Tryd.prog laidList W) : Laid W := by
  rw [MakeChecks.laidMetH_plain _ _ _ (by kernel_rfl)] at h
  have h2 := h.tail.tail
  have ht : Lib.TabIs Tryd.prog W (laidName 2) .u64 Lib.pow10Tab := Lib.tabIs_of_head g2 gT2 Tryd.underlying61 Tryd.underlying32 (by kernel_rfl) cells61 h2
  obtain ⟨a1, s1, hv1, -, -, -⟩ := laid_sentinel h2.tail g3 gT1 Tryd.underlying37 ptrRow Tryd.underlying67 Tryd.underlying69 rfl rfl Tryd.underlying9 cells69 cells9
  obtain ⟨a0, s0, hv0, -, -, -⟩ := laid_sentinel h2.tail.tail g4 gT0 Tryd.underlying37 ptrRow Tryd.underlying67 Tryd.underlying69 rfl rfl Tryd.underlying9 cells69 cells9
  refine ⟨ht, ⟨_, _, hv1⟩, ⟨_, _, hv0⟩, ?_⟩
  unfold Lib.TabIs World.var? at ht
  rw [g2] at ht
  simp only [Option.bind_some] at ht
  cases hh : W.heap[2]? with
  | none => rw [hh] at ht; simp at ht
  | some o => have := (Array.getElem?_eq_some_iff.1 hh).1; omega

theorem door_met (os : Os) (args : Array Value) : laidMetH Tryd.prog laidList ((World.doorLaid Tryd.prog 400 os).forCall (fun _ _ => 0) ⟨#[], args, []⟩).memory :=
  laidMetH_of_parts3 (fuel := 8) (laidMet_of_run' 8 (by kernel_rfl) (by kernel_rfl)) (by kernel_rfl) (by kernel_rfl)
end Go.Proofs.Qxb6614734aDoor
