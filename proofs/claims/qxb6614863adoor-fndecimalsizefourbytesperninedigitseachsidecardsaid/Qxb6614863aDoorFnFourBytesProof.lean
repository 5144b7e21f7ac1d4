/-
  THE TIED CARD OF FnDecimalSizeFourBytesPerNineDigitsEachSide: the walk (Qxb6614863aDoorSize) lifted to the row under its listed table, then the card by the given tie.
-/
import Derived.Test.Qxb6614863aDoorSize
import Derived.Test.Qxb6614863aDoorTie
import Derived.Test.Qxb6614863aDoorCards
import Derived.SevenTiedAt
import Derived.ProofKit
import Derived.LaidMore
import Derived.OpenShut
import Derived.Stop.Joined
import Derived.Lib.LaidTab
import Derived.ChangeVars
import Derived.WalkSmall
namespace Go.Proofs.Qxb6614863aDoor.fnDecimalSizeFourBytesPerNineDigitsEachSide
open Go.ChangeShapes Go.WideShapes Go.ChangeAt Go.RowKit

def tabName : String := Rows.fnDecimalSizeFourBytesPerNineDigitsEachSideSpec.vars.headD ""
def tab : List Int := [0, 1, 1, 2, 2, 3, 3, 4, 4, 4]
def tabCells : Array Value := #[.int .i64 0, .int .i64 1, .int .i64 1, .int .i64 2, .int .i64 2, .int .i64 3, .int .i64 3, .int .i64 4, .int .i64 4, .int .i64 4]

theorem own : ownKnob Tryd.prog.godebug = none := by kernel_rfl
theorem gTab : Tryd.prog.globalNamed tabName = some 0 := by kernel_rfl
theorem tTab : (Tryd.prog.globals[0]?).map (·.type) = some 39 := by kernel_rfl
theorem cells39 : Tryd.prog.cellsOf 39 = 10 := by kernel_rfl
theorem cells3 : Tryd.prog.cellsOf 3 = 1 := by kernel_rfl

theorem door_met (os : Os) (args : Array Value) : laidMetH Tryd.prog Rows.fnDecimalSizeFourBytesPerNineDigitsEachSideRow.laid ((World.doorLaid Tryd.prog 400 os).forCall (fun _ _ => 0) ⟨#[], args, []⟩).memory :=
  laidMetH_of_parts3 (fuel := 8) (laidMet_of_run' 8 (by kernel_rfl) (by kernel_rfl)) (by kernel_rfl) (by kernel_rfl)

theorem cells_of_laid {W : World} (h : laidMetH Tryd.prog Rows.fnDecimalSizeFourBytesPerNineDigitsEachSideRow.laid W) : W.var? Tryd.prog tabName = some tabCells := by
  rw [MakeChecks.laidMetH_plain _ _ _ (by kernel_rfl)] at h
  obtain ⟨ps, ⟨g, t, cs, fuel, p, q, hg, ht, hvar, hd, _, _⟩, _⟩ := h
  obtain rfl := Option.some.inj (gTab.symm.trans hg)
  obtain rfl := Option.some.inj (tTab.symm.trans ht)
  have := Lib.cells_of_tab (zs := tab) (k := .i64) (n := 10) (e := 3) Tryd.underlying39 Tryd.underlying3 cells3 cells39 hd
  have hv : W.var? Tryd.prog tabName = some cs := hvar
  rw [hv]
  obtain ⟨l⟩ := cs
  have e : l = tab.map fun z => Value.int .i64 z := this
  rw [e]
  rfl

theorem tab_of {W : World} (h : W.var? Tryd.prog tabName = some tabCells) : Tab W := by
  have hc := fun i => World.var?_cell gTab h i
  refine ⟨?_, ?_⟩
  · unfold World.var? at h
    rw [gTab] at h
    simp only [Option.bind_some] at h
    cases hh : W.heap[0]? with
    | none => rw [hh] at h; simp at h
    | some o => exact (Array.getElem?_eq_some_iff.1 hh).1
  · intro r h0 h1
    have e : r = 0 ∨ r = 1 ∨ r = 2 ∨ r = 3 ∨ r = 4 ∨ r = 5 ∨ r = 6 ∨ r = 7 ∨ r = 8 := by omega
    rcases e with rfl | rfl | rfl | rfl | rfl | rfl | rfl | rfl | rfl
    · exact hc 0
    · exact hc 1
    · exact hc 2
    · exact hc 3
    · exact hc 4
    · exact hc 5
    · exact hc 6
    · exact hc 7
    · exact hc 8

def tabH {H : Type} : DataW H := .agg (tab.map fun z => .lit (.int .i64 z))
theorem reads_table {H : Type} (enc : TypeId × Value → H) (W : World) (sp : Nat → Bool) : DataW.trod enc Tryd.prog W 0 sp true 3 39 tabCells.toList = some (tabH, []) := by kernel_rfl

set_option maxRecDepth 100000 in
theorem lifted (os : Os) (started : os.Started) (H : Type) (enc : TypeId × Value → H) :
    ReturnsInHanded {} Tryd.checked os 3 .any (fun w args => (Rows.fnDecimalSizeFourBytesPerNineDigitsEachSideSpec.pre enc Tryd.prog Tryd.f3 [] false w args ∧ laidMetH Tryd.prog Rows.fnDecimalSizeFourBytesPerNineDigitsEachSideRow.laid w) ∧ sizedMet enc Tryd.prog Tryd.f3 (OpenSpec.ofChange Rows.fnDecimalSizeFourBytesPerNineDigitsEachSideSpec) false w args)
      (Rows.fnDecimalSizeFourBytesPerNineDigitsEachSideSpec.post enc Tryd.prog Tryd.f3 false true false false) := by
  refine returnsInHanded_of_change_and (C := Tryd.checked) (X := fun w _ => laidMetH Tryd.prog Rows.fnDecimalSizeFourBytesPerNineDigitsEachSideRow.laid w) (fun _ _ _ hh h => h.of_heap hh) own started (by kernel_rfl) Tryd.func3
    (ChangeSpec.witness_shaped (enc := enc) (C := Tryd.checked) (os := os) (X := fun w _ => laidMetH Tryd.prog Rows.fnDecimalSizeFourBytesPerNineDigitsEachSideRow.laid w) false (World.doorLaid Tryd.prog 400 os) #[.int .i64 0, .int .i64 0] 8 rfl (World.shaped_of_RefB (by kernel_rfl) (by kernel_rfl)) (by kernel_rfl) (by kernel_rfl) (by kernel_rfl) (door_met os _)) ?_
  intro W base args ds gs before hval0 hW _ _ hL _
  have hval : ∀ (j : Nat) t v, Tryd.f3.params[j]? = some t → args[j]? = some v → Value.okWide Tryd.prog W .any base t v := hval0
  have hW' := hW
  obtain ⟨p, q, hA0, hV0, rfl, hfz, hnd⟩ := hW
  have hA : DataW.TrodAll enc Tryd.prog W 0 (fun _ => true) true Tryd.f3.params.toList args.toList ds p := hA0
  have hV : DataW.TrodVars enc Tryd.prog W (fun _ => true) [tabName] gs q := hV0
  rw [Tryd.params3] at hA hval
  obtain ⟨v0, v1, d0, d1, p0, p1, rfl, rfl, rfl, h0, h1⟩ := trodAll_two hA
  obtain ⟨a0, rfl, rfl, rfl, w0⟩ := open_int Tryd.underlying3 (hval 0 3 v0 rfl rfl) h0
  obtain ⟨a1, rfl, rfl, rfl, w1⟩ := open_int Tryd.underlying3 (hval 1 3 v1 rfl rfl) h1
  obtain ⟨g, t, cs, fuel, d, p', rfl, hg, ht, hvar, hd, rfl⟩ := trodVars_one hV
  obtain rfl := Option.some.inj (gTab.symm.trans hg)
  obtain rfl := Option.some.inj (tTab.symm.trans ht)
  have hcl := cells_of_laid hL
  obtain rfl : cs = tabCells := Option.some.inj (hvar.symm.trans hcl)
  obtain ⟨rfl, rfl⟩ := DataW.Trod.unique (v := .agg tabCells) ⟨fuel, hd⟩ ⟨3, reads_table enc W _⟩
  clear hA0 hV0 hval0
  have htab := tab_of hcl
  have b0 := bounds_i64 w0
  have b1 := bounds_i64 w1
  refine (law_each a0 a1 W htab b0.1 b0.2 b1.1 b1.2).mono fun e W' ⟨he, hk⟩ => ?_
  subst he
  have hvars : ∀ sp : Nat → Bool, DataW.TrodVars enc Tryd.prog W' sp [tabName] [tabH] (MemPlace.row ⟨0, 0, none⟩ tabCells.size ++ [] ++ []) := fun sp =>
    ⟨0, 39, tabCells, 3, [], [], hg, ht, var?_below hk.below hg htab.1 hvar, reads_table enc W' sp, rfl, rfl⟩
  exact ⟨_, rfl, post_of_same (pa := []) hW' (fun _ _ _ => trodAll_mk1 (shut_bool Tryd.underlying4 _)) (fun sp _ => trodAll_mk2 (shut_int Tryd.underlying3 w0) (shut_int Tryd.underlying3 w1)) (fun sp _ => hvars sp) (by simp)
    (hk.below.frame _) hk.frozen (ok_one (by kernel_rfl) rfl (okWide_bool_mk Tryd.underlying4 _))⟩

theorem row_holds : Rows.FnDecimalSizeFourBytesPerNineDigitsEachSideSaid :=
  OpenClaim.holds_of_wide 3 Tryd.f3 rfl rfl rfl rfl rfl rfl rfl ⟨rfl, rfl, rfl, rfl, rfl⟩ rfl rfl rfl rfl rfl (by kernel_rfl) Tryd.func3 (by kernel_rfl)
    (of_decide_eq_true (by kernel_rfl)) (by unfold Func.isWrapper; first | (rw [if_pos (by decide +kernel)]; kernel_rfl) | (rw [if_neg (by decide +kernel)]; exact ⟨rfl, rfl⟩))
    (fun os started H enc _ => lifted os started H enc)

theorem proved : Rows.FnDecimalSizeFourBytesPerNineDigitsEachSideCardSaid :=
  Claim7.holds_tied_plain_at .later [] [.data] true Rows.fnDecimalSizeFourBytesPerNineDigitsEachSideCard.stood.harness false
    row_holds (fun _ h => by cases h) (by kernel_rfl) (fun _ h => by cases h) fnDecimalSizeFourBytesPerNineDigitsEachSide_row_tie rfl ⟨rfl, rfl⟩ (by kernel_rfl) rfl
    (fun f fn hf hfn => by
      obtain rfl : f = 3 := Option.some.inj ((show Tryd.prog.funcNamed Rows.fnDecimalSizeFourBytesPerNineDigitsEachSideRow.func = some 3 by kernel_rfl).symm.trans hf) |>.symm
      obtain rfl : fn = Tryd.f3 := (Option.some.inj (Tryd.func3.symm.trans hfn)).symm
      exact ⟨by kernel_rfl, fun j t ht => by
        rw [Tryd.params3] at ht
        have h3 : t = 3 := by
          rcases j with _ | _ | j
          · simpa using ht.symm
          · simpa using ht.symm
          · simp at ht
        subst h3
        exact (show Tryd.prog.wantsStandIn 3 = false by kernel_rfl)⟩)
    (by kernel_rfl)
#print axioms proved
end Go.Proofs.Qxb6614863aDoor.fnDecimalSizeFourBytesPerNineDigitsEachSide
