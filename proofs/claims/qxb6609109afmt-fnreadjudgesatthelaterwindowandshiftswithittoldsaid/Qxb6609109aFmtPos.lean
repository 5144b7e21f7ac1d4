import Derived.Test.Qxb6609109aFmtDiv
import Derived.Deep.RegionHeld3
import Derived.Deep.QuietTactic
import Derived.BigQuiet
set_option linter.unusedVariables false
namespace Go.Proofs.Qxb6609109aFmt
open Go.RowKit

set_option maxHeartbeats 400000 in
theorem posAfter_core (b : Nat) (P now m s1 s2 Q QP : Int) (w : World) (hdv : Hid (M.IsDiv P m s1 s2)) (hQ : Hid (now / P = Q)) (hb : b < w.heap.size)
    (e1 : w.cell? ⟨b, 1, none⟩ = some (.int .i64 P)) (e2 : w.cell? ⟨b, 2, none⟩ = some (.int .i64 0)) (e3 : w.cell? ⟨b, 3, none⟩ = some (.int .u64 m)) (e4 : w.cell? ⟨b, 4, none⟩ = some (.int .u8 s1)) (e5 : w.cell? ⟨b, 5, none⟩ = some (.int .u8 s2))
    (p0 : 1 ≤ P) (p1 : P ≤ 9223372036854775807) (n0 : 0 ≤ now) (n1 : now < 9223372036854775808)
    (q0 : 0 ≤ Q) (q1 : Q ≤ now) (hQP : Q * P = QP) (r0 : 0 ≤ QP) (r1 : QP ≤ now) (r2 : now - QP < P) :
    Calls Tryf.prog 35 #[.pointer (some ⟨b, 0, none⟩), .int .i64 now] w fun e w' => e = .returned (.tuple #[.int .i64 Q, .int .i64 (P - (now - QP))]) ∧ Kept w w' := by
  go_enter Tryf.func35, Tryf.ntmps35
  go_wp2_with (go_at_call 37; refine (quo_any P m s1 s2 now _ hdv.out n0 n1).mono ?_; rw [hQ.out]; rintro e w' ⟨rfl, c, rfl⟩)
  go_ret2
  exact ⟨rfl, (Kept.refl _).alloc _ _⟩

/-- A windows struct in block b: its Count, its Period P, the phase 0, the divisor of P. -/
structure Ws (w : World) (b : Nat) (C P : Int) : Prop where
  hb : b < w.heap.size
  e0 : w.cell? ⟨b, 0, none⟩ = some (.int .i64 C)
  e1 : w.cell? ⟨b, 1, none⟩ = some (.int .i64 P)
  e2 : w.cell? ⟨b, 2, none⟩ = some (.int .i64 0)
  dv : ∃ m s1 s2, M.IsDiv P m s1 s2 ∧ w.cell? ⟨b, 3, none⟩ = some (.int .u64 m) ∧ w.cell? ⟨b, 4, none⟩ = some (.int .u8 s1) ∧ w.cell? ⟨b, 5, none⟩ = some (.int .u8 s2)

theorem Ws.kept {w w' : World} {b : Nat} {C P : Int} (h : Ws w b C P) (hk : Kept w w') : Ws w' b C P := by
  obtain ⟨hb, e0, e1, e2, m, s1, s2, hd, e3, e4, e5⟩ := h
  have hc := hk.cells
  exact ⟨Nat.lt_of_lt_of_le hb hk.below.size, (hc _ _ hb).trans e0, (hc _ _ hb).trans e1, (hc _ _ hb).trans e2, m, s1, s2, hd, (hc _ _ hb).trans e3, (hc _ _ hb).trans e4, (hc _ _ hb).trans e5⟩
theorem Ws.keptBut {w w' : World} {b p : Nat} {C P : Int} (h : Ws w b C P) (hk : KeptBut p w w') (hne : b ≠ p) : Ws w' b C P := by
  obtain ⟨hb, e0, e1, e2, m, s1, s2, hd, e3, e4, e5⟩ := h
  have hc := hk.cells
  exact ⟨Nat.lt_of_lt_of_le hb hk.size, (hc _ _ hb hne).trans e0, (hc _ _ hb hne).trans e1, (hc _ _ hb hne).trans e2, m, s1, s2, hd, (hc _ _ hb hne).trans e3, (hc _ _ hb hne).trans e4, (hc _ _ hb hne).trans e5⟩

theorem posAfter_any (b : Nat) (C P now : Int) (w : World) (h : Ws w b C P) (p0 : 1 ≤ P) (p1 : P ≤ 9223372036854775807) (n0 : 0 ≤ now) (n1 : now < 9223372036854775808) :
    Calls Tryf.prog 35 #[.pointer (some ⟨b, 0, none⟩), .int .i64 now] w fun e w' => e = .returned (.tuple #[.int .i64 (now / P), .int .i64 (P - now % P)]) ∧ Kept w w' := by
  obtain ⟨hb, e0, e1, e2, m, s1, s2, hd, e3, e4, e5⟩ := h
  have d := Int.mul_ediv_add_emod now P
  rw [Int.mul_comm] at d
  have d0 := Int.emod_nonneg now (show P ≠ 0 by omega)
  have d1 := Int.emod_lt_of_pos now (show 0 < P by omega)
  have q0 : 0 ≤ now / P := Int.ediv_nonneg n0 (by omega)
  have q1 : now / P ≤ now := Int.ediv_le_self P n0
  have r0 : 0 ≤ now / P * P := Int.mul_nonneg q0 (by omega)
  have := posAfter_core b P now m s1 s2 (now / P) (now / P * P) w hd rfl hb e1 e2 e3 e4 e5 p0 p1 n0 n1 q0 q1 rfl r0 (by omega) (by omega)
  rw [show P - (now - now / P * P) = P - now % P by omega] at this
  exact this

theorem posAfter_small (b : Nat) (C P now : Int) (w : World) (h : Ws w b C P) (p0 : 1 ≤ P) (p1 : P ≤ 9223372036854775807) (n0 : 0 ≤ now) (n1 : now < P) :
    Calls Tryf.prog 35 #[.pointer (some ⟨b, 0, none⟩), .int .i64 now] w fun e w' => e = .returned (.tuple #[.int .i64 0, .int .i64 (P - now)]) ∧ Kept w w' := by
  have := posAfter_any b C P now w h p0 p1 n0 (by omega)
  rw [Int.ediv_eq_zero_of_lt n0 n1, Int.emod_eq_of_lt n0 n1] at this
  exact this

set_option maxHeartbeats 400000 in
theorem position_neg (b : Nat) (C P now T R : Int) (w : World) (h : Hid (Ws w b C P)) (hb : b < w.heap.size) (e1 : w.cell? ⟨b, 1, none⟩ = some (.int .i64 P)) (p0 : 1 ≤ P) (p1 : P ≤ 9223372036854775807) (n0 : now < 0) (n1 : -9223372036854775808 ≤ now)
    (hT : now.tdiv P = T) (hR : now.tmod P = R) (t0 : -9223372036854775808 < T) (t1 : T ≤ 0) (r0 : -P < R) (r1 : R < 0) :
    Calls Tryf.prog 32 #[.pointer (some ⟨b, 0, none⟩), .int .i64 now] w fun e w' => (e = .returned (.tuple #[.int .i64 (T - 1), .int .i64 (P - (R + P))])) ∧ Kept w w' := by
  have hk : Hid (Ws w.drew b C P) := h.out.kept (Kept.refl w).drew
  go_enter Tryf.func32, Tryf.ntmps32
  go_wp2
  go_region
  go_wp2_with (go_at_call 35; refine (posAfter_small b C P (R + P) _ hk.out p0 p1 (by omega) (by omega)).mono ?_; rintro e w' ⟨rfl, hw⟩)
  go_ret2
  exact ⟨rfl, (Kept.refl w).drew.trans hw⟩

set_option maxHeartbeats 400000 in
theorem position_zero (b : Nat) (C P now T : Int) (w : World) (h : Hid (Ws w b C P)) (hb : b < w.heap.size) (e1 : w.cell? ⟨b, 1, none⟩ = some (.int .i64 P)) (p0 : 1 ≤ P) (p1 : P ≤ 9223372036854775807) (n0 : now < 0) (n1 : -9223372036854775808 ≤ now)
    (hT : now.tdiv P = T) (hR : now.tmod P = 0) (t0 : -9223372036854775808 ≤ T) (t1 : T ≤ 0) :
    Calls Tryf.prog 32 #[.pointer (some ⟨b, 0, none⟩), .int .i64 now] w fun e w' => (e = .returned (.tuple #[.int .i64 T, .int .i64 P])) ∧ Kept w w' := by
  have hk : Hid (Ws w.drew b C P) := h.out.kept (Kept.refl w).drew
  have HC : Hid (∀ w, Ws w b C P → Calls Tryf.prog 35 #[.pointer (some ⟨b, 0, none⟩), .int .i64 0] w fun e w' => e = .returned (.tuple #[.int .i64 0, .int .i64 P]) ∧ Kept w w') := by
    intro w hw
    have := posAfter_small b C P 0 w hw p0 p1 (by omega) (by omega)
    rw [Int.sub_zero] at this
    exact this
  go_enter Tryf.func32, Tryf.ntmps32
  go_wp2
  go_region
  go_wp2_with (go_at_call 35; refine (HC.out _ hk.out).mono ?_; rintro e w' ⟨rfl, hw⟩)
  go_ret2
  exact ⟨rfl, (Kept.refl w).drew.trans hw⟩

set_option maxHeartbeats 400000 in
theorem position_pos (b : Nat) (C P now : Int) (w : World) (h : Hid (Ws w b C P)) (p0 : 1 ≤ P) (p1 : P ≤ 9223372036854775807) (n0 : 0 ≤ now) (n1 : now < 9223372036854775808) :
    Calls Tryf.prog 32 #[.pointer (some ⟨b, 0, none⟩), .int .i64 now] w fun e w' => (e = .returned (.tuple #[.int .i64 (now / P), .int .i64 (P - now % P)])) ∧ Kept w w' := by
  go_enter Tryf.func32, Tryf.ntmps32
  go_wp2_with (go_at_call 35; refine (posAfter_any b C P now _ h.out p0 p1 n0 n1).mono ?_; rintro e w' ⟨rfl, hw⟩)
  go_ret2
  exact ⟨rfl, hw⟩

/-- Go's quotient and remainder at a negative dividend, as Euclid's. -/
theorem neg_div (now P : Int) (p0 : 1 ≤ P) (n0 : now < 0) :
    (now.tmod P < 0 ∧ -P < now.tmod P ∧ now / P = now.tdiv P - 1 ∧ now % P = now.tmod P + P) ∨ (now.tmod P = 0 ∧ now / P = now.tdiv P ∧ now % P = 0) := by
  have h1 := Int.mul_tdiv_add_tmod now P
  have h2 : now.tmod P ≤ 0 := by
    have := Int.tmod_nonneg P (show 0 ≤ -now by omega)
    rw [Int.neg_tmod] at this; omega
  have h3 : -P < now.tmod P := by
    have := Int.tmod_lt_of_pos (-now) (show 0 < P by omega)
    rw [Int.neg_tmod] at this; omega
  rcases Int.lt_or_eq_of_le h2 with h | h
  · refine .inl ⟨h, h3, ?_, ?_⟩
    · refine (Int.ediv_eq_iff_of_pos (by omega)).2 ⟨?_, ?_⟩
      · rw [Int.sub_mul, Int.one_mul, Int.mul_comm]; omega
      · rw [Int.sub_mul, Int.one_mul, Int.mul_comm]; omega
    · have hd : now / P = now.tdiv P - 1 := by
        refine (Int.ediv_eq_iff_of_pos (by omega)).2 ⟨?_, ?_⟩
        · rw [Int.sub_mul, Int.one_mul, Int.mul_comm]; omega
        · rw [Int.sub_mul, Int.one_mul, Int.mul_comm]; omega
      have := Int.mul_ediv_add_emod now P
      rw [hd, Int.mul_sub, Int.mul_one] at this
      omega
  · refine .inr ⟨h, ?_, ?_⟩
    · refine (Int.ediv_eq_iff_of_pos (by omega)).2 ⟨?_, ?_⟩
      · rw [Int.mul_comm]; omega
      · rw [Int.mul_comm]; omega
    · exact (Int.emod_eq_zero_of_dvd (Int.dvd_of_tmod_eq_zero h))

theorem ediv_range (now P : Int) (p0 : 1 ≤ P) (n1 : -9223372036854775808 ≤ now) (n2 : now < 9223372036854775808) : -9223372036854775808 ≤ now / P ∧ now / P < 9223372036854775808 := by
  constructor
  · refine Int.le_ediv_of_mul_le (by omega) ?_
    have : 9223372036854775808 * 1 ≤ 9223372036854775808 * P := Int.mul_le_mul_of_nonneg_left p0 (by omega)
    omega
  · refine Int.ediv_lt_of_lt_mul (by omega) ?_
    have : 9223372036854775808 * 1 ≤ 9223372036854775808 * P := Int.mul_le_mul_of_nonneg_left p0 (by omega)
    omega

theorem position_any (b : Nat) (C P now : Int) (w : World) (h : Ws w b C P) (p0 : 1 ≤ P) (p1 : P ≤ 9223372036854775807) (n1 : -9223372036854775808 ≤ now) (n2 : now < 9223372036854775808) :
    Calls Tryf.prog 32 #[.pointer (some ⟨b, 0, none⟩), .int .i64 now] w fun e w' => (e = .returned (.tuple #[.int .i64 (now / P), .int .i64 (P - now % P)])) ∧ Kept w w' := by
  rcases Int.lt_or_le now 0 with n0 | n0
  · have hr := ediv_range now P p0 n1 n2
    have ht : now.tdiv P ≤ 0 := by
      have := Int.tdiv_nonneg (show 0 ≤ -now by omega) (show 0 ≤ P by omega)
      rw [Int.neg_tdiv] at this; omega
    rcases neg_div now P p0 n0 with ⟨a, b', c, d⟩ | ⟨a, c, d⟩
    · rw [c, d]
      exact position_neg b C P now _ _ w h h.hb h.e1 p0 p1 n0 n1 rfl rfl (by omega) ht b' a
    · rw [c, d, Int.sub_zero]
      exact position_zero b C P now _ w h h.hb h.e1 p0 p1 n0 n1 rfl a (by omega) ht
  · exact position_pos b C P now w h p0 p1 n0 n2
end Go.Proofs.Qxb6609109aFmt
