import Derived.Test.Qxb6614734aDoorNames
import Derived.Lib.ItoaLen
import Derived.OpenShut
set_option linter.unusedVariables false
namespace Go.Proofs.Qxb6614734aDoor
open Go.RowKit

/-- The end of the buffer (block w.heap.size, 24 cells) holds l, from cell k on; the rest is still there. -/
structure Buf (w wr : World) (k : Nat) (l : List UInt8) : Prop where
  below : Below w.heap.size w wr
  gs : w.heap.size < wr.heap.size
  len : k + l.length = 24
  fr : ∀ i, wr.frozen? ⟨w.heap.size, i, none⟩ = false
  done : ∀ j, j < l.length → wr.cell? ⟨w.heap.size, k + j, none⟩ = some (.int .u8 (l.getD j 0).toNat)
  left : ∀ j, j < k → ∃ v, wr.cell? ⟨w.heap.size, j, none⟩ = some v

theorem addr_ne (g i j : Nat) (h : i ≠ j) : (⟨g, i, none⟩ : Addr) ≠ ⟨g, j, none⟩ := by
  intro e; injection e with e1 e2; exact h e2

theorem set_other (w : World) (g i j : Nat) (v : Value) (h : i ≠ j) : (w.setCell ⟨g, i, none⟩ v).cell? ⟨g, j, none⟩ = w.cell? ⟨g, j, none⟩ := by
  apply World.cell?_setCell_other; exact addr_ne g i j h
theorem set_same (w : World) (g i : Nat) (v u : Value) (h : w.cell? ⟨g, i, none⟩ = some u) : (w.setCell ⟨g, i, none⟩ v).cell? ⟨g, i, none⟩ = some v := by
  apply World.cell?_setCell_same (u := u); exact h

theorem Buf.push {w wr : World} {k : Nat} {l : List UInt8} (h : Buf w wr (k + 1) l) (c : UInt8) (v : Value) (hv : v = .int .u8 c.toNat) : Buf w (wr.setCell ⟨w.heap.size, k, none⟩ v) k (c :: l) := by
  subst hv
  obtain ⟨u, hu⟩ := h.left k (by omega)
  have hl := h.len
  refine ⟨h.below.setCell (Nat.le_refl _) _, by have := h.gs; simpa [World.setCell] using this, by simp; omega, fun i => ?_, fun j hj => ?_, fun j hj => ?_⟩
  · rw [World.frozen?_setCell]; exact h.fr i
  · cases j with
    | zero => exact set_same _ _ _ _ u hu
    | succ j =>
      rw [set_other _ _ _ _ _ (by omega)]
      have := h.done j (by simp at hj; omega)
      rw [show k + (j + 1) = k + 1 + j by omega]
      simpa using this
  · obtain ⟨v, hv⟩ := h.left j (by omega)
    exact ⟨v, by rw [set_other _ _ _ _ _ (by omega)]; exact hv⟩
theorem Buf.drew {w wr : World} {k : Nat} {l : List UInt8} (h : Buf w wr k l) : Buf w wr.drew k l := ⟨h.below.drew, h.gs, h.len, h.fr, h.done, h.left⟩

theorem dec_step (v : Nat) (h : 10 ≤ v) : Lib.decDigits v = Lib.decDigits (v / 10) ++ [UInt8.ofNat (48 + v % 10)] := by
  rw [Lib.decDigits]
  split
  · omega
  · rfl
theorem dec_last (v : Nat) (h : v < 10) : Lib.decDigits v = [UInt8.ofNat (48 + v)] := by
  rw [Lib.decDigits]
  split
  · rfl
  · omega
theorem dec_len (U : Nat) (h : U < 18446744073709551616) : (Lib.decDigits U).length ≤ 20 := by
  rw [Lib.decDigits_length]; exact Lib.nDigits_le20 U h

theorem u8_digit (n : Nat) (h : n < 10) : IntKind.u8.wrap (48 + (n : Int)) = ((UInt8.ofNat (48 + n)).toNat : Int) := by
  rw [D.ofNat_toNat n h, IntKind.wrap_u8]; omega

theorem str_of (l : List UInt8) : strOfNums (l.map fun c => (c.toNat : Int)) = ⟨l.toArray⟩ := by
  unfold strOfNums
  rw [List.map_map]
  have : ((fun n : Int => UInt8.ofNat n.toNat) ∘ fun c : UInt8 => (c.toNat : Int)) = id := by
    funext c; simp
  rw [this, List.map_id]

theorem Buf.text {w wr : World} {k : Nat} {l : List UInt8} (h : Buf w wr k l) (cap : Nat) : (convert 34 9 (.slice (some ⟨w.heap.size, k, none⟩) (24 - k) cap)).run Tryd.prog wr = .ok (.string ⟨l.toArray⟩) wr := by
  have hl := h.len
  rw [show 24 - k = l.length by omega]
  have := run_convert_bytes_arg (P := Tryd.prog) wr 34 5 Tryd.underlying34 Tryd.underlying5 w.heap.size k l.length cap (l.map fun c => (c.toNat : Int)) (by simp) (fun i hi => ?_) 9 Tryd.underlying9
  · rw [this, str_of]
  · rw [h.done i hi]
    simp [List.getD, List.getElem?_map, List.getElem?_eq_getElem hi]

theorem slice_buf (g m : Nat) (hm : m < 24) (W : World) : (Instr.sliceAt 33 (.pointer (some ⟨g, 0, none⟩)) (some (.int .i64 m)) none none).run Tryd.prog W = .ok (.slice (some ⟨g, m, none⟩) (24 - m) (24 - m)) W := by
  have h1 : Tryd.prog.arrayLen 33 = 24 := by kernel_rfl
  have h2 : Tryd.prog.elem 33 = 5 := by kernel_rfl
  have h3 : ∀ W, (sizeOf (Tryd.prog.elem 33)).run Tryd.prog W = .ok 1 W := fun W => by kernel_rfl
  have := run_sliceAt_array_l (P := Tryd.prog) W 33 ⟨g, 0, none⟩ (by rw [h1, h2]; exact Tryd.underlying33) .i64 (m : Int) (by omega) (by rw [h1]; omega)
  rw [this, h3]
  simp only [slicedAt, h1, Int.toNat_natCast]
  rw [show (Result.ok 1 W).andThen (fun s w => Result.ok (Value.slice (some (if 24 = m then (⟨g, 0, none⟩ : Addr) else (⟨g, 0, none⟩ : Addr).add (m * s))) (24 - m) (24 - m)) w) = Result.ok (Value.slice (some (if 24 = m then (⟨g, 0, none⟩ : Addr) else (⟨g, 0, none⟩ : Addr).add (m * 1))) (24 - m) (24 - m)) W from rfl]
  rw [if_neg (by omega)]
  simp [Addr.add]
  omega

theorem Buf.start (w : World) : Buf w (w.alloc (.cells #[.int .u8 0, .int .u8 0, .int .u8 0, .int .u8 0, .int .u8 0, .int .u8 0, .int .u8 0, .int .u8 0, .int .u8 0, .int .u8 0, .int .u8 0, .int .u8 0, .int .u8 0, .int .u8 0, .int .u8 0, .int .u8 0, .int .u8 0, .int .u8 0, .int .u8 0, .int .u8 0, .int .u8 0, .int .u8 0, .int .u8 0, .int .u8 0] 33)) 24 [] := by
  refine ⟨(Below.refl _ _).alloc (Nat.le_refl _) _, by simp, rfl, fun i => World.frozen?_alloc_at _ _ _ i rfl, fun j hj => absurd hj (Nat.not_lt_zero j), fun j hj => ?_⟩
  refine ⟨.int .u8 0, ?_⟩
  have : j = 0 ∨ j = 1 ∨ j = 2 ∨ j = 3 ∨ j = 4 ∨ j = 5 ∨ j = 6 ∨ j = 7 ∨ j = 8 ∨ j = 9 ∨ j = 10 ∨ j = 11 ∨ j = 12 ∨ j = 13 ∨ j = 14 ∨ j = 15 ∨ j = 16 ∨ j = 17 ∨ j = 18 ∨ j = 19 ∨ j = 20 ∨ j = 21 ∨ j = 22 ∨ j = 23 := by omega
  rcases this with rfl | rfl | rfl | rfl | rfl | rfl | rfl | rfl | rfl | rfl | rfl | rfl | rfl | rfl | rfl | rfl | rfl | rfl | rfl | rfl | rfl | rfl | rfl | rfl <;> simp [go_sem]

theorem left_ge {U v k : Nat} {w wr : World} {ds : List UInt8} (hU : U < 18446744073709551616) (hd : Lib.decDigits U = Lib.decDigits v ++ ds) (hb : Buf w wr k ds) : 5 ≤ k ∧ k ≤ 24 := by
  have h1 := dec_len U hU
  rw [hd, List.length_append] at h1
  have h2 : 1 ≤ (Lib.decDigits v).length := by
    cases h : Lib.decDigits v with
    | nil => exact absurd h (D.dec_ne v)
    | cons c r => simp
  have h3 := hb.len
  omega

set_option maxHeartbeats 400000 in
theorem zzitoa_pos (x : Int) (w : World) (U : Nat) (hU : x = U) (h0 : 0 ≤ x) (h1 : x ≤ 9223372036854775807) :
    Calls Tryd.prog 7 #[.int .i64 x] w fun e w' => e = .returned (.string ⟨(Lib.decDigits U).toArray⟩) ∧ Below w.heap.size w w' := by
  go_enter Tryd.func7, Tryd.ntmps7
  go_wp2
  go_loopw [3, 6] (fun u i wr => ∃ (v k : Nat) (ds : List UInt8), v < 18446744073709551616 ∧ u = .int .u64 v ∧ i = .int .i64 k ∧ Hid (Lib.decDigits U = Lib.decDigits v ++ ds) ∧ Hid (Buf w wr k ds)) (fun u _ _ => (intOf u).toNat)
  case atStart => exact ⟨U, 24, [], by omega, rfl, rfl, (List.append_nil _).symm, Buf.start w⟩
  case round =>
    obtain ⟨v, k, ds, hv, rfl, rfl, hd, hb⟩ := hrel
    have hk := left_ge (show U < 18446744073709551616 by omega) hd.out hb.out
    obtain ⟨m, rfl⟩ : ∃ m, k = m + 1 := ⟨k - 1, by omega⟩
    obtain ⟨o, ho⟩ := hb.out.left m (by omega)
    have fr0 := hb.out.fr m
    have hm : m < 24 := by omega
    by_cases h10 : v < 10
    · have hp := hb.out.push (UInt8.ofNat (48 + v)) (.int .u8 (48 + v)) (by rw [D.ofNat_toNat v h10]; rfl)
      have hsl := slice_buf w.heap.size m hm (wr.setCell ⟨w.heap.size, m, none⟩ (.int .u8 (48 + v)))
      have htx := hp.text (24 - m)
      obtain ⟨t, ht⟩ : ∃ t : ByteArray, Hid (t = ⟨(UInt8.ofNat (48 + v) :: ds).toArray⟩) := ⟨_, rfl⟩
      rw [← ht.out] at htx
      have HP : Hid (Below w.heap.size w (wr.setCell ⟨w.heap.size, m, none⟩ (.int .u8 (48 + v)))) := hp.below
      have hdd : Hid (Lib.decDigits U = UInt8.ofNat (48 + v) :: ds) := by
        show _ = _
        rw [hd.out, dec_last v h10]; rfl
      clear hp
      go_wp2
      go_ret
      rw [hdd.out, ← ht.out]
      exact ⟨rfl, HP.out⟩
    · have hp := hb.out.push (UInt8.ofNat (48 + v % 10)) (.int .u8 (48 + v % 10)) (by rw [D.ofNat_toNat (v % 10) (by omega)]; rfl)
      have HP : Hid (Buf w (wr.setCell ⟨w.heap.size, m, none⟩ (.int .u8 (48 + v % 10))) m (UInt8.ofNat (48 + v % 10) :: ds)) := hp
      have hdd : Hid (Lib.decDigits U = Lib.decDigits (v / 10) ++ (UInt8.ofNat (48 + v % 10) :: ds)) := by
        show _ = _
        rw [hd.out, dec_step v (by omega), List.append_assoc]; rfl
      clear hp
      go_wp2
      refine ⟨⟨v / 10, m, _, by omega, by simp, rfl, hdd, HP⟩, ?_⟩
      simp [intOf]; omega
set_option maxHeartbeats 400000 in
theorem zzitoa_neg (x : Int) (w : World) (U : Nat) (hU : x = -(U : Int)) (h0 : x < 0) (h1 : -9223372036854775808 ≤ x) :
    Calls Tryd.prog 7 #[.int .i64 x] w fun e w' => e = .returned (.string ⟨((45 : UInt8) :: Lib.decDigits U).toArray⟩) ∧ Below w.heap.size w w' := by
  have hu0 : -(x + 1) = (U : Int) - 1 := by omega
  have hu1 : (U : Int) - 1 + 1 = U := by omega
  go_enter Tryd.func7, Tryd.ntmps7
  go_wp2
  go_loopw [3, 6] (fun u i wr => ∃ (v k : Nat) (ds : List UInt8), v < 18446744073709551616 ∧ u = .int .u64 v ∧ i = .int .i64 k ∧ Hid (Lib.decDigits U = Lib.decDigits v ++ ds) ∧ Hid (Buf w wr k ds)) (fun u _ _ => (intOf u).toNat)
  case atStart => exact ⟨U, 24, [], by omega, (by rw [show -(-(U : Int) + 1) + 1 = U by omega]), rfl, (List.append_nil _).symm, Buf.start w⟩
  case round =>
    obtain ⟨v, k, ds, hv, rfl, rfl, hd, hb⟩ := hrel
    have hk := left_ge (show U < 18446744073709551616 by omega) hd.out hb.out
    obtain ⟨m, rfl⟩ : ∃ m, k = m + 1 := ⟨k - 1, by omega⟩
    obtain ⟨o, ho⟩ := hb.out.left m (by omega)
    have fr0 := hb.out.fr m
    have hm : m < 24 := by omega
    by_cases h10 : v < 10
    · obtain ⟨m', rfl⟩ : ∃ m', m = m' + 1 := ⟨m - 1, by omega⟩
      have hp0 := hb.out.push (UInt8.ofNat (48 + v)) (.int .u8 (48 + v)) (by rw [D.ofNat_toNat v h10]; rfl)
      obtain ⟨o', ho'⟩ := hp0.left m' (by omega)
      have fr1 := hp0.fr m'
      have hp := hp0.push 45 (.int .u8 45) rfl
      have hsl := slice_buf w.heap.size m' (by omega) ((wr.setCell ⟨w.heap.size, m' + 1, none⟩ (.int .u8 (48 + v))).setCell ⟨w.heap.size, m', none⟩ (.int .u8 45))
      have htx := hp.text (24 - m')
      obtain ⟨t, ht⟩ : ∃ t : ByteArray, Hid (t = ⟨((45 : UInt8) :: UInt8.ofNat (48 + v) :: ds).toArray⟩) := ⟨_, rfl⟩
      rw [← ht.out] at htx
      have HP : Hid (Below w.heap.size w ((wr.setCell ⟨w.heap.size, m' + 1, none⟩ (.int .u8 (48 + v))).setCell ⟨w.heap.size, m', none⟩ (.int .u8 45))) := hp.below
      have hdd : Hid (Lib.decDigits U = UInt8.ofNat (48 + v) :: ds) := by
        show _ = _
        rw [hd.out, dec_last v h10]; rfl
      clear hp hp0
      go_wp2
      go_ret
      rw [hdd.out, ← ht.out]
      exact ⟨rfl, HP.out⟩
    · have hp := hb.out.push (UInt8.ofNat (48 + v % 10)) (.int .u8 (48 + v % 10)) (by rw [D.ofNat_toNat (v % 10) (by omega)]; rfl)
      have HP : Hid (Buf w (wr.setCell ⟨w.heap.size, m, none⟩ (.int .u8 (48 + v % 10))) m (UInt8.ofNat (48 + v % 10) :: ds)) := hp
      have hdd : Hid (Lib.decDigits U = Lib.decDigits (v / 10) ++ (UInt8.ofNat (48 + v % 10) :: ds)) := by
        show _ = _
        rw [hd.out, dec_step v (by omega), List.append_assoc]; rfl
      clear hp
      go_wp2
      refine ⟨⟨v / 10, m, _, by omega, by simp, rfl, hdd, HP⟩, ?_⟩
      simp [intOf]; omega

theorem zzitoa_any (x : Int) (w : World) (h0 : -9223372036854775808 ≤ x) (h1 : x ≤ 9223372036854775807) :
    Calls Tryd.prog 7 #[.int .i64 x] w fun e w' => e = .returned (.string ⟨(Lib.itoa x).toArray⟩) ∧ Below w.heap.size w w' := by
  by_cases hneg : x < 0
  · have := zzitoa_neg x w x.natAbs (by omega) hneg h0
    unfold Lib.itoa
    rw [if_pos hneg]
    exact this
  · have := zzitoa_pos x w x.toNat (by omega) (by omega) h1
    unfold Lib.itoa
    rw [if_neg hneg]
    exact this

set_option maxHeartbeats 400000 in
theorem law3_core (n : Int) (w : World) (h0 : -9223372036854775808 ≤ n) (h1 : n ≤ 9223372036854775807) (t : ByteArray)
    (HU : Hid (∀ w, Laid w → Calls Tryd.prog 5 #[.agg #[.map none, .map none], .int .i64 n] w fun e w' => e = .returned (.string t) ∧ Below w.heap.size w w'))
    (HP : Hid (∀ w, Calls Tryd.prog 6 #[.string t] w fun e w' => e = .returned (.tuple #[.int .i64 n, .bool (decide (0 ≤ n))]) ∧ Below w.heap.size w w'))
    (HI : Hid (∀ w, Calls Tryd.prog 7 #[.int .i64 n] w fun e w' => e = .returned (.string t) ∧ Below w.heap.size w w')) (hl : Hid (Laid w)) :
    Calls Tryd.prog 3 #[.int .i64 n] w fun e w' => e = .returned (.bool true) ∧ Below w.heap.size w w' := by
  go_enter Tryd.func3, Tryd.ntmps3
  go_wp2_with fail
  refine (HU.out _ hl.out).mono ?_
  rintro e w1 ⟨rfl, b1⟩
  have B1 : Hid (Below w.heap.size w w1) := b1
  clear b1
  go_wp2_with fail
  refine (HP.out _).mono ?_
  rintro e w2 ⟨rfl, b2⟩
  have B2 : Hid (Below w.heap.size w w2) := B1.out.trans (b2.mono B1.out.size)
  clear b2 B1
  go_wp2_with fail
  refine (HI.out _).mono ?_
  rintro e w3 ⟨rfl, b3⟩
  have B3 : Hid (Below w.heap.size w w3) := B2.out.trans (b3.mono B2.out.size)
  clear b3 B2
  by_cases hn : 0 ≤ n
  · have e1 : decide (0 ≤ n) = true := decide_eq_true hn
    go_wp2
    go_ret
    exact ⟨rfl, B3.out⟩
  · have e1 : decide (0 ≤ n) = false := decide_eq_false hn
    go_wp2
    go_ret
    exact ⟨rfl, B3.out⟩

theorem itoa_size (n : Int) (h0 : -9223372036854775808 ≤ n) (h1 : n ≤ 9223372036854775807) : (⟨(Lib.itoa n).toArray⟩ : ByteArray).size ≤ 281474976710656 := by
  have := Lib.itoa_length_le n h0 h1
  show ((Lib.itoa n).toArray).size ≤ _
  simp; omega

theorem law3_any (n : Int) (w : World) (w0 : (Lit.int .i64 n).wf = true) (hl : Laid w) :
    Calls Tryd.prog 3 #[.int .i64 n] w fun e w' => e = .returned (.bool true) ∧ Below w.heap.size w w' := by
  have b0 := bounds_i64 w0
  have h1 : n ≤ 9223372036854775807 := by omega
  refine law3_core n w b0.1 h1 ⟨(Lib.itoa n).toArray⟩ (fun w hl => user_any n w b0.1 h1 hl _ rfl) (fun w => zzparse_of _ n _ w ?_) (fun w => zzitoa_any n w b0.1 h1) hl
  exact parse_yes _ n w (itoa_size n b0.1 h1) (D.atoi_itoa n b0.1 h1) b0.1 h1
end Go.Proofs.Qxb6614734aDoor
