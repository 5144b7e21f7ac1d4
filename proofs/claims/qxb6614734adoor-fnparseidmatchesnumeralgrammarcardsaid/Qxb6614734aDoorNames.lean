import Derived.Test.Qxb6614734aDoorShelf
import Derived.Test.Qxb6614734aDoorPlain
import Derived.WalkKit
import Derived.WalkSpells
import Derived.WalkLawsBesides
import Derived.Stop.IfaceNil
import Derived.Laws.BytesArg
set_option linter.unusedVariables false
namespace Go.Proofs.Qxb6614734aDoor
open Go.RowKit

/-- What the listed variables give the walks. -/
structure Laid (w : World) : Prop where
  tab : Lib.TabIs Tryd.prog w (laidName 2) .u64 Lib.pow10Tab
  range : ∃ tp p, w.var? Tryd.prog (laidName 3) = some #[.iface tp p]
  bad : ∃ tp p, w.var? Tryd.prog (laidName 4) = some #[.iface tp p]
  size : 3 ≤ w.heap.size

theorem g2 : Tryd.prog.globalNamed (laidName 2) = some 2 := by kernel_rfl
theorem g3 : Tryd.prog.globalNamed (laidName 3) = some 1 := by kernel_rfl
theorem g4 : Tryd.prog.globalNamed (laidName 4) = some 0 := by kernel_rfl
theorem Laid.below {w w' : World} (h : Laid w) (hb : Below w.heap.size w w') : Laid w' := by
  obtain ⟨t, ⟨tp, p, r⟩, ⟨tp', p', b⟩, s⟩ := h
  exact ⟨var?_below hb g2 (by omega) t, ⟨tp, p, var?_below hb g3 (by omega) r⟩, ⟨tp', p', var?_below hb g4 (by omega) b⟩, Nat.le_trans s hb.size⟩

set_option maxHeartbeats 400000 in
theorem parse_yes (s : ByteArray) (v : Int) (w : World) (hlim : s.size ≤ 281474976710656) (h : Hid (Lib.atoiAll s.data.toList = .ok v)) (v0 : -9223372036854775808 ≤ v) (v1 : v ≤ 9223372036854775807) :
    Calls Tryd.prog 11 #[.string s] w fun e w' => e = .returned (.tuple #[.int .i64 v, .bool (decide (0 ≤ v))]) ∧ Below w.heap.size w w' := by
  go_enter Tryd.func11, Tryd.ntmps11
  go_wp2_with (go_at_call 13; refine (atoi_ok s hlim v h.out _).mono ?_; rintro e w1 ⟨rfl, hb⟩)
  go_ret2
  exact ⟨rfl, hb⟩

set_option maxHeartbeats 400000 in
theorem parse_no (s : ByteArray) (v : Int) (w : World) (h : Hid (∀ w, Laid w → Calls Tryd.prog 13 #[.string s] w fun e w' => (∃ x, e = .returned (.tuple #[.int .i64 v, .iface 45 x])) ∧ Below w.heap.size w w')) (hl : Hid (Laid w)) :
    Calls Tryd.prog 11 #[.string s] w fun e w' => e = .returned (.tuple #[.int .i64 v, .bool false]) ∧ Below w.heap.size w w' := by
  go_enter Tryd.func11, Tryd.ntmps11
  go_wp2_with (go_at_call 13; refine (h.out _ hl.out).mono ?_; rintro e w1 ⟨⟨x, rfl⟩, hb⟩)
  go_ret2
  exact ⟨rfl, hb⟩

set_option maxHeartbeats 400000 in
theorem zzparse_of (s : ByteArray) (v : Int) (b : Bool) (w : World) (h : Hid (Calls Tryd.prog 11 #[.string s] w fun e w' => e = .returned (.tuple #[.int .i64 v, .bool b]) ∧ Below w.heap.size w w')) :
    Calls Tryd.prog 6 #[.string s] w fun e w' => e = .returned (.tuple #[.int .i64 v, .bool b]) ∧ Below w.heap.size w w' := by
  go_enter Tryd.func6, Tryd.ntmps6
  go_wp2_with (go_at_call 11; refine h.out.mono ?_; rintro e w1 ⟨rfl, hb⟩)
  go_ret2
  exact ⟨rfl, hb⟩

theorem look_none (n : Int) (w : World) : (Instr.lookup 22 (.map none) (.int .i64 n) true).run Tryd.prog w = .ok (.tuple #[.string ⟨#[]⟩, .bool false]) w := by kernel_rfl

set_option maxHeartbeats 400000 in
theorem nameOf_any (n : Int) (w : World) (h0 : -9223372036854775808 ≤ n) (h1 : n ≤ 9223372036854775807) (hl : Hid (Laid w)) (t : ByteArray) (ht : Hid (t = ⟨(Lib.itoa n).toArray⟩)) :
    Calls Tryd.prog 10 #[.map none, .int .i64 n] w fun e w' => e = .returned (.string t) ∧ Below w.heap.size w w' := by
  have hlk := look_none n w
  have HC : Hid (Calls Tryd.prog 12 #[.int .i64 n] w fun e w' => e = .returned (.string t) ∧ Below w.heap.size w w') := by
    rw [ht.out]; exact itoa_call n h0 h1 w hl.out.tab
  go_enter Tryd.func10, Tryd.ntmps10
  go_wp2_with (go_at_call 12; refine HC.out.mono ?_; rintro e w1 ⟨rfl, hb⟩)
  go_ret
  exact ⟨rfl, hb⟩

set_option maxHeartbeats 400000 in
theorem user_any (n : Int) (w : World) (h0 : -9223372036854775808 ≤ n) (h1 : n ≤ 9223372036854775807) (hl : Hid (Laid w)) (t : ByteArray) (ht : Hid (t = ⟨(Lib.itoa n).toArray⟩)) :
    Calls Tryd.prog 5 #[.agg #[.map none, .map none], .int .i64 n] w fun e w' => e = .returned (.string t) ∧ Below w.heap.size w w' := by
  have hb0 : Below w.heap.size w (w.alloc (.cells #[.map none, .map none] 24)) := (Below.refl _ _).alloc (Nat.le_refl _) _
  have HC : Hid (Calls Tryd.prog 10 #[.map none, .int .i64 n] (w.alloc (.cells #[.map none, .map none] 24)) fun e w' => e = .returned (.string t) ∧ Below (w.alloc (.cells #[.map none, .map none] 24)).heap.size (w.alloc (.cells #[.map none, .map none] 24)) w') := nameOf_any n _ h0 h1 (hl.out.below hb0) t ht
  have HB : Hid (Below w.heap.size w (w.alloc (.cells #[.map none, .map none] 24))) := hb0
  clear hb0
  go_enter Tryd.func5, Tryd.ntmps5
  go_wp2_with (go_at_call 10; refine HC.out.mono ?_; rintro e w1 ⟨rfl, hb⟩)
  go_ret
  exact ⟨rfl, HB.out.trans (hb.mono (by simp))⟩
end Go.Proofs.Qxb6614734aDoor
