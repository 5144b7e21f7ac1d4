import Derived.Test.Qxb6614734aDoorGreater
import Derived.Deep.CutBlock
import Derived.Deep.CutRange
set_option linter.unusedVariables false
namespace Go.Proofs.Qxb6614734aDoor
open Go.RowKit

set_option maxHeartbeats 400000 in
theorem bytes8_ok (s : ByteArray) (w : World) (h : s.size ≤ 65536) :
    Calls Tryd.prog 8 #[.string s] w fun e w' => e = .returned (.bool true) ∧ w' = w := by
  go_enter Tryd.func8, Tryd.ntmps8
  go_wp2
  go_ret
  exact ⟨rfl, rfl⟩
set_option maxHeartbeats 400000 in
theorem bytes8_any (s : ByteArray) (w : World) (h : s.size ≤ 281474976710656) :
    Calls Tryd.prog 8 #[.string s] w fun e w' => (∃ b, e = .returned (.bool b)) ∧ w' = w := by
  go_enter Tryd.func8, Tryd.ntmps8
  go_wp2
  all_goals (go_ret; exact ⟨⟨_, rfl⟩, rfl⟩)

set_option maxHeartbeats 400000 in
theorem law4_long (s : ByteArray) (w : World) (h : s.size ≤ 281474976710656) (hs : 65536 < s.size) :
    Calls Tryd.prog 4 #[.string s] w fun e w' => e = .returned (.bool true) ∧ Below w.heap.size w w' := by
  have HB : Hid (Calls Tryd.prog 8 #[.string s] w fun e w' => (∃ b, e = .returned (.bool b)) ∧ w' = w) := bytes8_any s w h
  go_enter Tryd.func4, Tryd.ntmps4
  go_wp2_with fail
  refine HB.out.mono ?_
  rintro e w0 ⟨⟨b, rfl⟩, rfl⟩
  cases b
  · go_wp2
    go_ret
    exact ⟨rfl, Below.refl _ _⟩
  · go_wp2
    go_ret
    exact ⟨rfl, Below.refl _ _⟩


set_option maxHeartbeats 400000 in
theorem law4_empty (s : ByteArray) (w : World) (hn : s.size = 0)
    (HB : Hid (Calls Tryd.prog 8 #[.string s] w fun e w' => e = .returned (.bool true) ∧ w' = w))
    (HP : Hid (Calls Tryd.prog 6 #[.string s] w fun e w' => e = .returned (.tuple #[.int .i64 0, .bool false]) ∧ Below w.heap.size w w')) :
    Calls Tryd.prog 4 #[.string s] w fun e w' => e = .returned (.bool true) ∧ Below w.heap.size w w' := by
  go_enter Tryd.func4, Tryd.ntmps4
  go_wp2_with fail
  refine HB.out.mono ?_
  rintro e w0 ⟨rfl, rfl⟩
  go_wp2_with fail
  refine HP.out.mono ?_
  rintro e w1 ⟨rfl, b1⟩
  have B1 : Hid (Below w0.heap.size w0 w1) := b1
  clear b1
  go_wp2_with fail
  go_loopw [7] (fun t wr => t = .int .i64 0 ∧ wr = w1) (fun _ _ => 0)
  case atStart => exact ⟨rfl, rfl⟩
  case round =>
    obtain ⟨rfl, rfl⟩ := hrel
    go_wp2_with fail
    go_loopw [8] (fun t wx => t = .int .i64 0 ∧ wx = wr) (fun _ _ => 0)
    case atStart => exact ⟨rfl, rfl⟩
    case round =>
      obtain ⟨rfl, rfl⟩ := hrel
      go_wp2
      go_ret
      exact ⟨rfl, B1.out⟩

/-- How the sign is read. -/
def SignAt (s : ByteArray) (n iN : Nat) (neg : Bool) : Prop :=
  (1 ≤ n ∧ (∃ c : Int, (∀ W, (Instr.index 9 (.string s) (.int .i64 0)).run Tryd.prog W = .ok (.int .u8 c) W) ∧ (c == 43) = false ∧ (c == 45) = false) ∧ iN = 0 ∧ neg = false) ∨
  (1 ≤ n ∧ (∀ W, (Instr.index 9 (.string s) (.int .i64 0)).run Tryd.prog W = .ok (.int .u8 43) W) ∧ iN = 1 ∧ neg = false) ∨ (1 ≤ n ∧ (∀ W, (Instr.index 9 (.string s) (.int .i64 0)).run Tryd.prog W = .ok (.int .u8 45) W) ∧ iN = 1 ∧ neg = true)

/-- 18446744073709551615, 9223372036854775808, 9223372036854775807 as texts -/
def c20 : ByteArray := { data := #[49, 56, 52, 52, 54, 55, 52, 52, 48, 55, 51, 55, 48, 57, 53, 53, 49, 54, 49, 53] }
def c8 : ByteArray := { data := #[57, 50, 50, 51, 51, 55, 50, 48, 51, 54, 56, 53, 52, 55, 55, 53, 56, 48, 56] }
def c7 : ByteArray := { data := #[57, 50, 50, 51, 51, 55, 50, 48, 51, 54, 56, 53, 52, 55, 55, 53, 56, 48, 55] }

def G (D B : ByteArray) (r : Bool) : Prop := ∀ W, Calls Tryd.prog 9 #[.string D, .string B] W fun e w' => e = .returned (.bool r) ∧ Below W.heap.size W w'
def Usr (w : World) (id : Int) (t : ByteArray) : Prop := ∀ W, Below w.heap.size w W → Calls Tryd.prog 5 #[.agg #[.map none, .map none], .int .i64 id] W fun e w' => e = .returned (.string t) ∧ Below W.heap.size W w'

/-- What parseID answered, beside what the law asks of it, way by way. -/
def Tail (w : World) (n iN j : Nat) (neg : Bool) (D : ByteArray) (id : Int) (ok : Bool) : Prop :=
  (iN < j ∧ Hid (G D c20 true) ∧ ok = false ∧ ((neg = true ∧ id = -9223372036854775808) ∨ (neg = false ∧ id = 9223372036854775807))) ∨
  ((j : Int) ≤ iN ∧ ok = false ∧ id = 0) ∨
  (iN < j ∧ Hid (G D c20 false) ∧ j < n ∧ ok = false ∧ id = 0) ∨
  (iN < j ∧ Hid (G D c20 false) ∧ j = n ∧ neg = true ∧ (D.toList == [48]) = true ∧ ok = true ∧ id = 0) ∨
  (iN < j ∧ Hid (G D c20 false) ∧ j = n ∧ neg = true ∧ (D.toList == [48]) = false ∧ Hid (G D c8 true) ∧ ok = false ∧ id = -9223372036854775808) ∨
  (iN < j ∧ Hid (G D c20 false) ∧ j = n ∧ neg = true ∧ (D.toList == [48]) = false ∧ Hid (G D c8 false) ∧ ok = false ∧ ∃ t, Hid (Usr w id t) ∧ (t.toList == (({ data := #[45] } : ByteArray) ++ D).toList) = true) ∨
  (iN < j ∧ Hid (G D c20 false) ∧ j = n ∧ neg = false ∧ Hid (G D c7 true) ∧ ok = false ∧ id = 9223372036854775807) ∨
  (iN < j ∧ Hid (G D c20 false) ∧ j = n ∧ neg = false ∧ Hid (G D c7 false) ∧ ok = true ∧ ∃ t, Hid (Usr w id t) ∧ (t.toList == D.toList) = true)

set_option maxHeartbeats 1000000 in
theorem law4_walk (s : ByteArray) (w : World) (n : Nat) (hn : s.size = n) (hs : n ≤ 65536) (id : Int) (ok : Bool)
    (HB : Hid (Calls Tryd.prog 8 #[.string s] w fun e w' => e = .returned (.bool true) ∧ w' = w))
    (HP : Hid (Calls Tryd.prog 6 #[.string s] w fun e w' => e = .returned (.tuple #[.int .i64 id, .bool ok]) ∧ Below w.heap.size w w'))
    (iN j k : Nat) (neg : Bool) (hsg : Hid (SignAt s n iN neg)) (ij : iN ≤ j) (jn : j ≤ n) (ik : iN ≤ k) (kj : k ≤ j)
    (F1 : Hid (∀ m, iN ≤ m → m < j → 48 ≤ bt s.data.toList m ∧ bt s.data.toList m ≤ 57))
    (F2 : Hid (j < n → ¬ (48 ≤ bt s.data.toList j ∧ bt s.data.toList j ≤ 57)))
    (F3 : Hid (∀ m, iN ≤ m → m < k → m + 1 < j ∧ bt s.data.toList m = 48))
    (F4 : Hid (k + 1 < j → bt s.data.toList k ≠ 48))
    (D : ByteArray) (hD : D.size ≤ 65536) (hsl : ∀ W, (Instr.slice 9 (.string s) (some (.int .i64 k)) (some (.int .i64 j)) none).run Tryd.prog W = .ok (.string D) W)
    (HT : Hid (Tail w n iN j neg D id ok)) :
    Calls Tryd.prog 4 #[.string s] w fun e w' => e = .returned (.bool true) ∧ Below w.heap.size w w' := by
  rcases hsg.out with ⟨h0, ⟨c, hx, hc1, hc2⟩, h1, rfl⟩ | ⟨h0, hx, h1, rfl⟩ | ⟨h0, hx, h1, rfl⟩
  · clear hsg
    go_enter Tryd.func4, Tryd.ntmps4
    go_wp2_with fail
    refine HB.out.mono ?_
    rintro e w0 ⟨rfl, rfl⟩
    go_wp2_with fail
    refine HP.out.mono ?_
    rintro e w1 ⟨rfl, b1⟩
    have B1 : Hid (Below w0.heap.size w0 w1) := b1
    clear b1
    go_upto_block 0 with fail
    go_cut [7] from 38 to 55 (fun t wx => t = .int .i64 j ∧ wx = w1)
    case first =>
      go_wp2_with fail
      go_loopw [7] (fun t wr => ∃ m : Nat, iN ≤ m ∧ m ≤ j ∧ t = .int .i64 m ∧ wr = w1) (fun t _ => j - (intOf t).toNat)
      case atStart => exact ⟨iN, Nat.le_refl _, ij, by rw [h1]; rfl, rfl⟩
      case round =>
        obtain ⟨m, hm0, hm1, rfl, rfl⟩ := hrel
        by_cases hmj : m < j
        · obtain ⟨d0, d1⟩ := F1.out m hm0 hmj
          have ix := idx s m (by omega)
          generalize bt s.data.toList m = x at *
          have mn : (m : Int) < n := by omega
          go_wp2
          refine ⟨⟨m + 1, by omega, by omega, by go_num, by trivial⟩, ?_⟩
          simp [intOf]; omega
        · have hmj' : m = j := by omega
          subst hmj'
          by_cases hjn : m < n
          · have hnd := F2.out hjn
            have ix := idx s m (by omega)
            generalize bt s.data.toList m = x at *
            have mn : (m : Int) < n := by omega
            by_cases hx48 : 48 ≤ x
            · have hx57 : ¬ x ≤ 57 := fun h => hnd ⟨hx48, h⟩
              go_wp2_with fail
              go_meet
              exact ⟨rfl, rfl⟩
            · go_wp2_with fail
              go_meet
              exact ⟨rfl, rfl⟩
          · go_wp2_with fail
            go_meet
            exact ⟨rfl, rfl⟩
    case rest =>
      obtain ⟨rfl, rfl⟩ := hcut
      go_upto_block 2 with fail
      go_cut [8] from 57 to 68 (fun t wx => t = .int .i64 k ∧ wx = wc)
      case first =>
        go_wp2_with fail
        go_loopw [8] (fun t wr => ∃ m : Nat, iN ≤ m ∧ m ≤ k ∧ t = .int .i64 m ∧ wr = wc) (fun t _ => k - (intOf t).toNat)
        case atStart => exact ⟨iN, Nat.le_refl _, ik, by rw [h1]; rfl, rfl⟩
        case round =>
          obtain ⟨m, hm0, hm1, rfl, rfl⟩ := hrel
          by_cases hmk : m < k
          · obtain ⟨d0, d1⟩ := F3.out m hm0 hmk
            have ix := idx s m (by omega)
            generalize bt s.data.toList m = x at *
            subst d1
            have mj : (m : Int) < (j : Int) - 1 := by omega
            go_wp2
            refine ⟨⟨m + 1, by omega, by omega, by go_num, by trivial⟩, ?_⟩
            simp [intOf]; omega
          · have hmk' : m = k := by omega
            subst hmk'
            by_cases hjn : m + 1 < j
            · have hnd := F4.out hjn
              have ix := idx s m (by omega)
              generalize bt s.data.toList m = x at *
              have mj : (m : Int) < (j : Int) - 1 := by omega
              have hx48 : (x == 48) = false := beq_eq_false_iff_ne.2 hnd
              go_wp2_with fail
              go_meet
              exact ⟨rfl, rfl⟩
            · have mj : ¬ (m : Int) < (j : Int) - 1 := by omega
              go_wp2_with fail
              go_meet
              exact ⟨rfl, rfl⟩
      case rest =>
        obtain ⟨rfl, rfl⟩ := hcut
        rcases HT.out with ⟨t1, t2, rfl, t4⟩ | ⟨t1, rfl, rfl⟩ | ⟨t1, t2, t3, rfl, rfl⟩ | ⟨t1, t2, rfl, t4, t5, rfl, rfl⟩ | ⟨t1, t2, rfl, t4, t5, t6, rfl, rfl⟩ | ⟨t1, t2, rfl, t4, t5, t6, rfl, t, t8, t9⟩ | ⟨t1, t2, rfl, t4, t5, rfl, rfl⟩ | ⟨t1, t2, rfl, t4, t5, rfl, t, t8, t9⟩
        · clear HT
          obtain rfl : id = 9223372036854775807 := by rcases t4 with ⟨h, h'⟩ | ⟨h, h'⟩ <;> first | exact h' | cases h
          clear t4
          go_wp2_with fail
          refine (t2.out _).mono ?_
          rintro e w2 ⟨rfl, bb⟩
          have B2 : Hid (Below w0.heap.size w0 w2) := B1.out.trans (bb.mono B1.out.size)
          clear bb
          go_wp2
          go_ret
          exact ⟨rfl, B2.out⟩
        · clear HT
          have hj : j = iN := by omega
          clear t1
          subst hj
          go_wp2
          go_ret
          exact ⟨rfl, B1.out⟩
        · clear HT
          have hji : ((j : Int) == 0) = false := beq_eq_false_iff_ne.2 (by omega)
          have hjn : ((j : Int) != (n : Int)) = true := bne_iff_ne.2 (by omega)
          go_wp2_with fail
          refine (t2.out _).mono ?_
          rintro e w2 ⟨rfl, bb⟩
          have B2 : Hid (Below w0.heap.size w0 w2) := B1.out.trans (bb.mono B1.out.size)
          clear bb
          go_wp2
          go_ret
          exact ⟨rfl, B2.out⟩
        · cases t4
        · cases t4
        · cases t4
        · clear HT t4
          have hji : ((j : Int) == 0) = false := beq_eq_false_iff_ne.2 (by omega)
          go_wp2_with fail
          refine (t2.out _).mono ?_
          rintro e w2 ⟨rfl, bb⟩
          have B2 : Hid (Below w0.heap.size w0 w2) := B1.out.trans (bb.mono B1.out.size)
          clear bb
          go_wp2_with fail
          refine (t5.out _).mono ?_
          rintro e w3 ⟨rfl, bb⟩
          have B3 : Hid (Below w0.heap.size w0 w3) := B2.out.trans (bb.mono B2.out.size)
          clear bb
          go_wp2
          go_ret
          exact ⟨rfl, B3.out⟩
        · clear HT t4
          have hji : ((j : Int) == 0) = false := beq_eq_false_iff_ne.2 (by omega)
          go_wp2_with fail
          refine (t2.out _).mono ?_
          rintro e w2 ⟨rfl, bb⟩
          have B2 : Hid (Below w0.heap.size w0 w2) := B1.out.trans (bb.mono B1.out.size)
          clear bb
          go_wp2_with fail
          refine (t5.out _).mono ?_
          rintro e w3 ⟨rfl, bb⟩
          have B3 : Hid (Below w0.heap.size w0 w3) := B2.out.trans (bb.mono B2.out.size)
          clear bb
          go_wp2_with fail
          refine (t8.out _ B3.out).mono ?_
          rintro e w4 ⟨rfl, bb⟩
          have B4 : Hid (Below w0.heap.size w0 w4) := B3.out.trans (bb.mono B3.out.size)
          clear bb
          go_wp2
          go_ret
          exact ⟨rfl, B4.out⟩
  · clear hsg
    go_enter Tryd.func4, Tryd.ntmps4
    go_wp2_with fail
    refine HB.out.mono ?_
    rintro e w0 ⟨rfl, rfl⟩
    go_wp2_with fail
    refine HP.out.mono ?_
    rintro e w1 ⟨rfl, b1⟩
    have B1 : Hid (Below w0.heap.size w0 w1) := b1
    clear b1
    go_upto_block 0 with fail
    go_cut [7] from 38 to 55 (fun t wx => t = .int .i64 j ∧ wx = w1)
    case first =>
      go_wp2_with fail
      go_loopw [7] (fun t wr => ∃ m : Nat, iN ≤ m ∧ m ≤ j ∧ t = .int .i64 m ∧ wr = w1) (fun t _ => j - (intOf t).toNat)
      case atStart => exact ⟨iN, Nat.le_refl _, ij, by rw [h1]; rfl, rfl⟩
      case round =>
        obtain ⟨m, hm0, hm1, rfl, rfl⟩ := hrel
        by_cases hmj : m < j
        · obtain ⟨d0, d1⟩ := F1.out m hm0 hmj
          have ix := idx s m (by omega)
          generalize bt s.data.toList m = x at *
          have mn : (m : Int) < n := by omega
          go_wp2
          refine ⟨⟨m + 1, by omega, by omega, by go_num, by trivial⟩, ?_⟩
          simp [intOf]; omega
        · have hmj' : m = j := by omega
          subst hmj'
          by_cases hjn : m < n
          · have hnd := F2.out hjn
            have ix := idx s m (by omega)
            generalize bt s.data.toList m = x at *
            have mn : (m : Int) < n := by omega
            by_cases hx48 : 48 ≤ x
            · have hx57 : ¬ x ≤ 57 := fun h => hnd ⟨hx48, h⟩
              go_wp2_with fail
              go_meet
              exact ⟨rfl, rfl⟩
            · go_wp2_with fail
              go_meet
              exact ⟨rfl, rfl⟩
          · go_wp2_with fail
            go_meet
            exact ⟨rfl, rfl⟩
    case rest =>
      obtain ⟨rfl, rfl⟩ := hcut
      go_upto_block 2 with fail
      go_cut [8] from 57 to 68 (fun t wx => t = .int .i64 k ∧ wx = wc)
      case first =>
        go_wp2_with fail
        go_loopw [8] (fun t wr => ∃ m : Nat, iN ≤ m ∧ m ≤ k ∧ t = .int .i64 m ∧ wr = wc) (fun t _ => k - (intOf t).toNat)
        case atStart => exact ⟨iN, Nat.le_refl _, ik, by rw [h1]; rfl, rfl⟩
        case round =>
          obtain ⟨m, hm0, hm1, rfl, rfl⟩ := hrel
          by_cases hmk : m < k
          · obtain ⟨d0, d1⟩ := F3.out m hm0 hmk
            have ix := idx s m (by omega)
            generalize bt s.data.toList m = x at *
            subst d1
            have mj : (m : Int) < (j : Int) - 1 := by omega
            go_wp2
            refine ⟨⟨m + 1, by omega, by omega, by go_num, by trivial⟩, ?_⟩
            simp [intOf]; omega
          · have hmk' : m = k := by omega
            subst hmk'
            by_cases hjn : m + 1 < j
            · have hnd := F4.out hjn
              have ix := idx s m (by omega)
              generalize bt s.data.toList m = x at *
              have mj : (m : Int) < (j : Int) - 1 := by omega
              have hx48 : (x == 48) = false := beq_eq_false_iff_ne.2 hnd
              go_wp2_with fail
              go_meet
              exact ⟨rfl, rfl⟩
            · have mj : ¬ (m : Int) < (j : Int) - 1 := by omega
              go_wp2_with fail
              go_meet
              exact ⟨rfl, rfl⟩
      case rest =>
        obtain ⟨rfl, rfl⟩ := hcut
        rcases HT.out with ⟨t1, t2, rfl, t4⟩ | ⟨t1, rfl, rfl⟩ | ⟨t1, t2, t3, rfl, rfl⟩ | ⟨t1, t2, rfl, t4, t5, rfl, rfl⟩ | ⟨t1, t2, rfl, t4, t5, t6, rfl, rfl⟩ | ⟨t1, t2, rfl, t4, t5, t6, rfl, t, t8, t9⟩ | ⟨t1, t2, rfl, t4, t5, rfl, rfl⟩ | ⟨t1, t2, rfl, t4, t5, rfl, t, t8, t9⟩
        · clear HT
          obtain rfl : id = 9223372036854775807 := by rcases t4 with ⟨h, h'⟩ | ⟨h, h'⟩ <;> first | exact h' | cases h
          clear t4
          go_wp2_with fail
          refine (t2.out _).mono ?_
          rintro e w2 ⟨rfl, bb⟩
          have B2 : Hid (Below w0.heap.size w0 w2) := B1.out.trans (bb.mono B1.out.size)
          clear bb
          go_wp2
          go_ret
          exact ⟨rfl, B2.out⟩
        · clear HT
          have hj : j = iN := by omega
          clear t1
          subst hj
          go_wp2
          go_ret
          exact ⟨rfl, B1.out⟩
        · clear HT
          have hji : ((j : Int) == 1) = false := beq_eq_false_iff_ne.2 (by omega)
          have hjn : ((j : Int) != (n : Int)) = true := bne_iff_ne.2 (by omega)
          go_wp2_with fail
          refine (t2.out _).mono ?_
          rintro e w2 ⟨rfl, bb⟩
          have B2 : Hid (Below w0.heap.size w0 w2) := B1.out.trans (bb.mono B1.out.size)
          clear bb
          go_wp2
          go_ret
          exact ⟨rfl, B2.out⟩
        · cases t4
        · cases t4
        · cases t4
        · clear HT t4
          have hji : ((j : Int) == 1) = false := beq_eq_false_iff_ne.2 (by omega)
          go_wp2_with fail
          refine (t2.out _).mono ?_
          rintro e w2 ⟨rfl, bb⟩
          have B2 : Hid (Below w0.heap.size w0 w2) := B1.out.trans (bb.mono B1.out.size)
          clear bb
          go_wp2_with fail
          refine (t5.out _).mono ?_
          rintro e w3 ⟨rfl, bb⟩
          have B3 : Hid (Below w0.heap.size w0 w3) := B2.out.trans (bb.mono B2.out.size)
          clear bb
          go_wp2
          go_ret
          exact ⟨rfl, B3.out⟩
        · clear HT t4
          have hji : ((j : Int) == 1) = false := beq_eq_false_iff_ne.2 (by omega)
          go_wp2_with fail
          refine (t2.out _).mono ?_
          rintro e w2 ⟨rfl, bb⟩
          have B2 : Hid (Below w0.heap.size w0 w2) := B1.out.trans (bb.mono B1.out.size)
          clear bb
          go_wp2_with fail
          refine (t5.out _).mono ?_
          rintro e w3 ⟨rfl, bb⟩
          have B3 : Hid (Below w0.heap.size w0 w3) := B2.out.trans (bb.mono B2.out.size)
          clear bb
          go_wp2_with fail
          refine (t8.out _ B3.out).mono ?_
          rintro e w4 ⟨rfl, bb⟩
          have B4 : Hid (Below w0.heap.size w0 w4) := B3.out.trans (bb.mono B3.out.size)
          clear bb
          go_wp2
          go_ret
          exact ⟨rfl, B4.out⟩
  · clear hsg
    go_enter Tryd.func4, Tryd.ntmps4
    go_wp2_with fail
    refine HB.out.mono ?_
    rintro e w0 ⟨rfl, rfl⟩
    go_wp2_with fail
    refine HP.out.mono ?_
    rintro e w1 ⟨rfl, b1⟩
    have B1 : Hid (Below w0.heap.size w0 w1) := b1
    clear b1
    go_upto_block 0 with fail
    go_cut [7] from 38 to 55 (fun t wx => t = .int .i64 j ∧ wx = w1)
    case first =>
      go_wp2_with fail
      go_loopw [7] (fun t wr => ∃ m : Nat, iN ≤ m ∧ m ≤ j ∧ t = .int .i64 m ∧ wr = w1) (fun t _ => j - (intOf t).toNat)
      case atStart => exact ⟨iN, Nat.le_refl _, ij, by rw [h1]; rfl, rfl⟩
      case round =>
        obtain ⟨m, hm0, hm1, rfl, rfl⟩ := hrel
        by_cases hmj : m < j
        · obtain ⟨d0, d1⟩ := F1.out m hm0 hmj
          have ix := idx s m (by omega)
          generalize bt s.data.toList m = x at *
          have mn : (m : Int) < n := by omega
          go_wp2
          refine ⟨⟨m + 1, by omega, by omega, by go_num, by trivial⟩, ?_⟩
          simp [intOf]; omega
        · have hmj' : m = j := by omega
          subst hmj'
          by_cases hjn : m < n
          · have hnd := F2.out hjn
            have ix := idx s m (by omega)
            generalize bt s.data.toList m = x at *
            have mn : (m : Int) < n := by omega
            by_cases hx48 : 48 ≤ x
            · have hx57 : ¬ x ≤ 57 := fun h => hnd ⟨hx48, h⟩
              go_wp2_with fail
              go_meet
              exact ⟨rfl, rfl⟩
            · go_wp2_with fail
              go_meet
              exact ⟨rfl, rfl⟩
          · go_wp2_with fail
            go_meet
            exact ⟨rfl, rfl⟩
    case rest =>
      obtain ⟨rfl, rfl⟩ := hcut
      go_upto_block 2 with fail
      go_cut [8] from 57 to 68 (fun t wx => t = .int .i64 k ∧ wx = wc)
      case first =>
        go_wp2_with fail
        go_loopw [8] (fun t wr => ∃ m : Nat, iN ≤ m ∧ m ≤ k ∧ t = .int .i64 m ∧ wr = wc) (fun t _ => k - (intOf t).toNat)
        case atStart => exact ⟨iN, Nat.le_refl _, ik, by rw [h1]; rfl, rfl⟩
        case round =>
          obtain ⟨m, hm0, hm1, rfl, rfl⟩ := hrel
          by_cases hmk : m < k
          · obtain ⟨d0, d1⟩ := F3.out m hm0 hmk
            have ix := idx s m (by omega)
            generalize bt s.data.toList m = x at *
            subst d1
            have mj : (m : Int) < (j : Int) - 1 := by omega
            go_wp2
            refine ⟨⟨m + 1, by omega, by omega, by go_num, by trivial⟩, ?_⟩
            simp [intOf]; omega
          · have hmk' : m = k := by omega
            subst hmk'
            by_cases hjn : m + 1 < j
            · have hnd := F4.out hjn
              have ix := idx s m (by omega)
              generalize bt s.data.toList m = x at *
              have mj : (m : Int) < (j : Int) - 1 := by omega
              have hx48 : (x == 48) = false := beq_eq_false_iff_ne.2 hnd
              go_wp2_with fail
              go_meet
              exact ⟨rfl, rfl⟩
            · have mj : ¬ (m : Int) < (j : Int) - 1 := by omega
              go_wp2_with fail
              go_meet
              exact ⟨rfl, rfl⟩
      case rest =>
        obtain ⟨rfl, rfl⟩ := hcut
        rcases HT.out with ⟨t1, t2, rfl, t4⟩ | ⟨t1, rfl, rfl⟩ | ⟨t1, t2, t3, rfl, rfl⟩ | ⟨t1, t2, rfl, t4, t5, rfl, rfl⟩ | ⟨t1, t2, rfl, t4, t5, t6, rfl, rfl⟩ | ⟨t1, t2, rfl, t4, t5, t6, rfl, t, t8, t9⟩ | ⟨t1, t2, rfl, t4, t5, rfl, rfl⟩ | ⟨t1, t2, rfl, t4, t5, rfl, t, t8, t9⟩
        · clear HT
          obtain rfl : id = -9223372036854775808 := by rcases t4 with ⟨h, h'⟩ | ⟨h, h'⟩ <;> first | exact h' | cases h
          clear t4
          go_wp2_with fail
          refine (t2.out _).mono ?_
          rintro e w2 ⟨rfl, bb⟩
          have B2 : Hid (Below w0.heap.size w0 w2) := B1.out.trans (bb.mono B1.out.size)
          clear bb
          go_wp2
          go_ret
          exact ⟨rfl, B2.out⟩
        · clear HT
          have hj : j = iN := by omega
          clear t1
          subst hj
          go_wp2
          go_ret
          exact ⟨rfl, B1.out⟩
        · clear HT
          have hji : ((j : Int) == 1) = false := beq_eq_false_iff_ne.2 (by omega)
          have hjn : ((j : Int) != (n : Int)) = true := bne_iff_ne.2 (by omega)
          go_wp2_with fail
          refine (t2.out _).mono ?_
          rintro e w2 ⟨rfl, bb⟩
          have B2 : Hid (Below w0.heap.size w0 w2) := B1.out.trans (bb.mono B1.out.size)
          clear bb
          go_wp2
          go_ret
          exact ⟨rfl, B2.out⟩
        · clear HT t4
          have hji : ((j : Int) == 1) = false := beq_eq_false_iff_ne.2 (by omega)
          go_wp2_with fail
          refine (t2.out _).mono ?_
          rintro e w2 ⟨rfl, bb⟩
          have B2 : Hid (Below w0.heap.size w0 w2) := B1.out.trans (bb.mono B1.out.size)
          clear bb
          go_wp2
          go_ret
          exact ⟨rfl, B2.out⟩
        · clear HT t4
          have hji : ((j : Int) == 1) = false := beq_eq_false_iff_ne.2 (by omega)
          go_wp2_with fail
          refine (t2.out _).mono ?_
          rintro e w2 ⟨rfl, bb⟩
          have B2 : Hid (Below w0.heap.size w0 w2) := B1.out.trans (bb.mono B1.out.size)
          clear bb
          go_wp2_with fail
          refine (t6.out _).mono ?_
          rintro e w3 ⟨rfl, bb⟩
          have B3 : Hid (Below w0.heap.size w0 w3) := B2.out.trans (bb.mono B2.out.size)
          clear bb
          go_wp2
          go_ret
          exact ⟨rfl, B3.out⟩
        · clear HT t4
          have hji : ((j : Int) == 1) = false := beq_eq_false_iff_ne.2 (by omega)
          go_wp2_with fail
          refine (t2.out _).mono ?_
          rintro e w2 ⟨rfl, bb⟩
          have B2 : Hid (Below w0.heap.size w0 w2) := B1.out.trans (bb.mono B1.out.size)
          clear bb
          go_wp2_with fail
          refine (t6.out _).mono ?_
          rintro e w3 ⟨rfl, bb⟩
          have B3 : Hid (Below w0.heap.size w0 w3) := B2.out.trans (bb.mono B2.out.size)
          clear bb
          go_wp2_with fail
          refine (t8.out _ B3.out).mono ?_
          rintro e w4 ⟨rfl, bb⟩
          have B4 : Hid (Below w0.heap.size w0 w4) := B3.out.trans (bb.mono B3.out.size)
          clear bb
          go_wp2
          go_ret
          exact ⟨rfl, B4.out⟩
        · cases t4
        · cases t4
end Go.Proofs.Qxb6614734aDoor
