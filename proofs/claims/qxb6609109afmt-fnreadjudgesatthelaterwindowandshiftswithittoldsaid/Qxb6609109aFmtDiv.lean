/-
  THE WALKS of math/bits.Div64 (at a low word 0), newDivisor and divisor.quo. Len64, LeadingZeros64 and Mul64 by the shelf's contracts (laid in Qxb6609109aFmtShelf).
-/
import Derived.Test.Qxb6609109aFmtRows
import Derived.Test.Qxb6609109aFmtMath
import Derived.Test.Qxb6609109aFmtShelf
import Derived.WalkKit
import Derived.WalkSpells
import Derived.WalkLawsBesides
import Derived.Test.Qxb6609109aFmtKept
import Derived.Lib.BitFns
import Derived.Lib.ItoaNum
import Derived.Laws.Bits64b
set_option linter.unusedVariables false
namespace Go.Proofs.Qxb6609109aFmt
open Go.RowKit

theorem mul64 (x y H L : Int) (w : World) (hx0 : 0 ≤ x) (hx1 : x < 18446744073709551616) (hy0 : 0 ≤ y) (hy1 : y < 18446744073709551616)
   (hH : Hid (H = x * y / 18446744073709551616)) (hL : Hid (L = x * y % 18446744073709551616)) :
    Calls Tryf.prog 38 #[.int .u64 x, .int .u64 y] w fun e w' => e = .returned (.tuple #[.int .u64 H, .int .u64 L]) ∧ w' = w := by
  obtain ⟨X, rfl⟩ := Int.eq_ofNat_of_zero_le hx0
  obtain ⟨Y, rfl⟩ := Int.eq_ofNat_of_zero_le hy0
  have h1 := hH.out; have h2 := hL.out
  subst h1 h2
  refine (Tryf.bits_Mul64 X Y (by omega) (by omega) w).mono fun e w' h => ?_
  rw [← Int.natCast_mul]
  exact h

theorem len64 (x : Int) (w : World) (h0 : 0 ≤ x) (h1 : x ≤ 18446744073709551615) :
    Calls Tryf.prog 30 #[.int .u64 x] w fun e w' => e = .returned (.int .i64 (Lib.bitLen x.toNat)) ∧ w' = w := Tryf.bits_Len64 x w h0 h1

set_option maxHeartbeats 1000000 in
theorem div64_hi (hi y s p Y U y1 y0 q0 B0 Q1 R1 q2 B2 Q2 : Int) (w : World) (h1 : 1 ≤ hi) (h2 : hi < y) (h3 : y ≤ 9223372036854775807)
    (l1 : 1 ≤ s) (l2 : s ≤ 63) (hp : 2 ^ s.toNat = p) (hY : y * p = Y) (hU : hi * p = U) (a1 : 9223372036854775808 ≤ Y) (a2 : Y < 18446744073709551616) (b1 : 0 ≤ U) (b2 : U < Y)
    (hy1 : Y / 4294967296 = y1) (hy0 : bits .and .u64 Y 4294967295 = y0)
    (hor : bits .or .u64 U 0 = U) (hz : bits .and .u64 0 4294967295 = 0)
    (c1 : 2147483648 ≤ y1) (c2 : y1 < 4294967296) (d1 : 0 ≤ y0) (d2 : y0 < 4294967296)
    (hq0 : U / y1 = q0) (e1 : 0 ≤ q0) (e2 : q0 ≤ 4294967297) (hB0 : q0 * y1 = B0) (f1 : 0 ≤ B0) (f2 : B0 ≤ U)
    (HD : Hid (M.Dig y1 y0 U 0)) (HI : Hid (M.Inv y1 y0 U 0 q0 (U - B0) ∧ U - B0 < y1)) (HQ1 : Hid (Q1 = (U * 4294967296 + 0) / (y1 * 4294967296 + y0)))
    (g1 : 0 ≤ Q1) (g2 : Q1 < 4294967296)
    (hR1 : IntKind.u64.wrap (IntKind.u64.wrap (IntKind.u64.wrap (U * 4294967296)) - IntKind.u64.wrap (Q1 * Y)) = R1) (i1 : 0 ≤ R1) (i2 : R1 < Y)
    (hq2 : R1 / y1 = q2) (j1 : 0 ≤ q2) (j2 : q2 ≤ 4294967297) (hB2 : q2 * y1 = B2) (k1 : 0 ≤ B2) (k2 : B2 ≤ R1)
    (HD2 : Hid (M.Dig y1 y0 R1 0)) (HI2 : Hid (M.Inv y1 y0 R1 0 q2 (R1 - B2) ∧ R1 - B2 < y1)) (HQ2 : Hid (Q2 = (R1 * 4294967296 + 0) / (y1 * 4294967296 + y0)))
    (m1 : 0 ≤ Q2) (m2 : Q2 < 4294967296)
    (HS : Hid (∀ w, Calls Tryf.prog 34 #[.int .u64 y] w fun e w' => e = .returned (.int .i64 s) ∧ w' = w)) :
    Calls Tryf.prog 31 #[.int .u64 hi, .int .u64 0, .int .u64 y] w fun e w' => (∃ r, e = .returned (.tuple #[.int .u64 (Q1 * 4294967296 + Q2), .int .u64 r])) ∧ w' = w := by
  go_enter Tryf.func31, Tryf.ntmps31
  go_wp2_with (first | (go_at_call 34; refine (HS.out _).mono ?_; rintro e w' ⟨rfl, rfl⟩) )
  go_loop [15, 16] (fun a b => ∃ q r : Int, M.Inv y1 y0 U 0 q r ∧ r < 4294967296 ∧ a = .int .u64 q ∧ b = .int .u64 r) (fun a _ => (intOf a).toNat)
  case atStart =>
    refine ⟨q0, U - B0, HI.out.1, ?_, by rw [hq0], rfl⟩
    have := HI.out.2; omega
  case round =>
    obtain ⟨q, r, hI, hr, rfl, rfl⟩ := hrel
    have HI' : Hid (M.Inv y1 y0 U 0 q r) := hI
    have r0 := hI.r0; have n0 := hI.q0; have n1 := hI.q1
    clear hI
    by_cases ht : 4294967296 ≤ q ∨ 4294967296 * r + 0 < q * y0
    · obtain ⟨hn, hn1⟩ := HI'.out.round HD.out ht
      have hq1 : 1 ≤ q := by have := hn.q0; omega
      have HN : Hid (M.Inv y1 y0 U 0 (q - 1) (r + y1)) := hn
      clear hn HI'
      by_cases hb : 4294967296 ≤ r + y1
      · have hQ : q = Q1 + 1 := by have := HN.out.broke HD.out hn1 hb; rw [← HQ1.out] at this; omega
        subst hQ
        by_cases hq : 4294967296 ≤ Q1 + 1
        · clear ht HN
          go_wp2
          go_loop [18, 16] (fun a b => ∃ q r : Int, M.Inv y1 y0 R1 0 q r ∧ r < 4294967296 ∧ a = .int .u64 q ∧ b = .int .u64 r) (fun a _ => (intOf a).toNat)
          case atStart =>
            refine ⟨q2, R1 - B2, HI2.out.1, ?_, rfl, rfl⟩
            have := HI2.out.2; omega
          case round =>
            obtain ⟨t, v, hI, hr2, rfl, rfl⟩ := hrel
            have HI' : Hid (M.Inv y1 y0 R1 0 t v) := hI
            have v0 := hI.r0; have t0 := hI.q0; have t1 := hI.q1
            clear hI
            by_cases ht : 4294967296 ≤ t ∨ 4294967296 * v + 0 < t * y0
            · obtain ⟨hn, hn1⟩ := HI'.out.round HD2.out ht
              have hq1 : 1 ≤ t := by have := hn.q0; omega
              have HN : Hid (M.Inv y1 y0 R1 0 (t - 1) (v + y1)) := hn
              clear hn HI'
              by_cases hb : 4294967296 ≤ v + y1
              · have hQ : t = Q2 + 1 := by have := HN.out.broke HD2.out hn1 hb; rw [← HQ2.out] at this; omega
                subst hQ
                by_cases hq : 4294967296 ≤ Q2 + 1
                · clear ht HN
                  go_wp2
                  go_ret2
                  exact ⟨⟨_, rfl⟩, rfl⟩
                · have ht' : 4294967296 * v < (Q2 + 1) * y0 := by omega
                  have hA1 : (Q2 + 1) * y0 < 18446744073709551616 := by
                    have : (Q2 + 1) * y0 ≤ 4294967295 * y0 := Int.mul_le_mul_of_nonneg_right (by omega) d1
                    omega
                  clear ht HN
                  go_wp2
                  go_ret2
                  exact ⟨⟨_, rfl⟩, rfl⟩
              · by_cases hq : 4294967296 ≤ t
                · clear ht
                  go_wp2
                  go_round
                  case rel => exact ⟨t - 1, v + y1, HN.out, by omega, rfl, rfl⟩
                  case measure => simp [intOf]; omega
                · have ht' : 4294967296 * v < t * y0 := by omega
                  have hA1 : t * y0 < 18446744073709551616 := by
                    have : t * y0 ≤ 4294967295 * y0 := Int.mul_le_mul_of_nonneg_right (by omega) d1
                    omega
                  clear ht
                  go_wp2
                  go_round
                  case rel => exact ⟨t - 1, v + y1, HN.out, by omega, rfl, rfl⟩
                  case measure => simp [intOf]; omega
            · have hQ : Q2 = t := by have := HI'.out.exit HD2.out (by omega); rw [← HQ2.out] at this; omega
              subst hQ
              have ht' : ¬ 4294967296 * v < Q2 * y0 := by omega
              have hA0 : 0 ≤ Q2 * y0 := Int.mul_nonneg t0 d1
              have hA1 : Q2 * y0 < 18446744073709551616 := by omega
              clear ht HI'
              go_wp2
              go_ret2
              exact ⟨⟨_, rfl⟩, rfl⟩
        · have ht' : 4294967296 * r < (Q1 + 1) * y0 := by omega
          have hA1 : (Q1 + 1) * y0 < 18446744073709551616 := by
            have : (Q1 + 1) * y0 ≤ 4294967295 * y0 := Int.mul_le_mul_of_nonneg_right (by omega) d1
            omega
          clear ht HN
          go_wp2
          go_loop [18, 16] (fun a b => ∃ q r : Int, M.Inv y1 y0 R1 0 q r ∧ r < 4294967296 ∧ a = .int .u64 q ∧ b = .int .u64 r) (fun a _ => (intOf a).toNat)
          case atStart =>
            refine ⟨q2, R1 - B2, HI2.out.1, ?_, rfl, rfl⟩
            have := HI2.out.2; omega
          case round =>
            obtain ⟨t, v, hI, hr2, rfl, rfl⟩ := hrel
            have HI' : Hid (M.Inv y1 y0 R1 0 t v) := hI
            have v0 := hI.r0; have t0 := hI.q0; have t1 := hI.q1
            clear hI
            by_cases ht : 4294967296 ≤ t ∨ 4294967296 * v + 0 < t * y0
            · obtain ⟨hn, hn1⟩ := HI'.out.round HD2.out ht
              have hq1 : 1 ≤ t := by have := hn.q0; omega
              have HN : Hid (M.Inv y1 y0 R1 0 (t - 1) (v + y1)) := hn
              clear hn HI'
              by_cases hb : 4294967296 ≤ v + y1
              · have hQ : t = Q2 + 1 := by have := HN.out.broke HD2.out hn1 hb; rw [← HQ2.out] at this; omega
                subst hQ
                by_cases hq : 4294967296 ≤ Q2 + 1
                · clear ht HN
                  go_wp2
                  go_ret2
                  exact ⟨⟨_, rfl⟩, rfl⟩
                · have ht' : 4294967296 * v < (Q2 + 1) * y0 := by omega
                  have hA1 : (Q2 + 1) * y0 < 18446744073709551616 := by
                    have : (Q2 + 1) * y0 ≤ 4294967295 * y0 := Int.mul_le_mul_of_nonneg_right (by omega) d1
                    omega
                  clear ht HN
                  go_wp2
                  go_ret2
                  exact ⟨⟨_, rfl⟩, rfl⟩
              · by_cases hq : 4294967296 ≤ t
                · clear ht
                  go_wp2
                  go_round
                  case rel => exact ⟨t - 1, v + y1, HN.out, by omega, rfl, rfl⟩
                  case measure => simp [intOf]; omega
                · have ht' : 4294967296 * v < t * y0 := by omega
                  have hA1 : t * y0 < 18446744073709551616 := by
                    have : t * y0 ≤ 4294967295 * y0 := Int.mul_le_mul_of_nonneg_right (by omega) d1
                    omega
                  clear ht
                  go_wp2
                  go_round
                  case rel => exact ⟨t - 1, v + y1, HN.out, by omega, rfl, rfl⟩
                  case measure => simp [intOf]; omega
            · have hQ : Q2 = t := by have := HI'.out.exit HD2.out (by omega); rw [← HQ2.out] at this; omega
              subst hQ
              have ht' : ¬ 4294967296 * v < Q2 * y0 := by omega
              have hA0 : 0 ≤ Q2 * y0 := Int.mul_nonneg t0 d1
              have hA1 : Q2 * y0 < 18446744073709551616 := by omega
              clear ht HI'
              go_wp2
              go_ret2
              exact ⟨⟨_, rfl⟩, rfl⟩
      · by_cases hq : 4294967296 ≤ q
        · clear ht
          go_wp2
          go_round
          case rel => exact ⟨q - 1, r + y1, HN.out, by omega, rfl, rfl⟩
          case measure => simp [intOf]; omega
        · have ht' : 4294967296 * r < q * y0 := by omega
          have hA1 : q * y0 < 18446744073709551616 := by
            have : q * y0 ≤ 4294967295 * y0 := Int.mul_le_mul_of_nonneg_right (by omega) d1
            omega
          clear ht
          go_wp2
          go_round
          case rel => exact ⟨q - 1, r + y1, HN.out, by omega, rfl, rfl⟩
          case measure => simp [intOf]; omega
    · have hQ : Q1 = q := by have := HI'.out.exit HD.out (by omega); rw [← HQ1.out] at this; omega
      subst hQ
      have ht' : ¬ 4294967296 * r < Q1 * y0 := by omega
      have hA0 : 0 ≤ Q1 * y0 := Int.mul_nonneg n0 d1
      have hA1 : Q1 * y0 < 18446744073709551616 := by omega
      clear ht HI'
      go_wp2
      go_loop [18, 16] (fun a b => ∃ q r : Int, M.Inv y1 y0 R1 0 q r ∧ r < 4294967296 ∧ a = .int .u64 q ∧ b = .int .u64 r) (fun a _ => (intOf a).toNat)
      case atStart =>
        refine ⟨q2, R1 - B2, HI2.out.1, ?_, rfl, rfl⟩
        have := HI2.out.2; omega
      case round =>
        obtain ⟨t, v, hI, hr2, rfl, rfl⟩ := hrel
        have HI' : Hid (M.Inv y1 y0 R1 0 t v) := hI
        have v0 := hI.r0; have t0 := hI.q0; have t1 := hI.q1
        clear hI
        by_cases ht : 4294967296 ≤ t ∨ 4294967296 * v + 0 < t * y0
        · obtain ⟨hn, hn1⟩ := HI'.out.round HD2.out ht
          have hq1 : 1 ≤ t := by have := hn.q0; omega
          have HN : Hid (M.Inv y1 y0 R1 0 (t - 1) (v + y1)) := hn
          clear hn HI'
          by_cases hb : 4294967296 ≤ v + y1
          · have hQ : t = Q2 + 1 := by have := HN.out.broke HD2.out hn1 hb; rw [← HQ2.out] at this; omega
            subst hQ
            by_cases hq : 4294967296 ≤ Q2 + 1
            · clear ht HN
              go_wp2
              go_ret2
              exact ⟨⟨_, rfl⟩, rfl⟩
            · have ht' : 4294967296 * v < (Q2 + 1) * y0 := by omega
              have hA1 : (Q2 + 1) * y0 < 18446744073709551616 := by
                have : (Q2 + 1) * y0 ≤ 4294967295 * y0 := Int.mul_le_mul_of_nonneg_right (by omega) d1
                omega
              clear ht HN
              go_wp2
              go_ret2
              exact ⟨⟨_, rfl⟩, rfl⟩
          · by_cases hq : 4294967296 ≤ t
            · clear ht
              go_wp2
              go_round
              case rel => exact ⟨t - 1, v + y1, HN.out, by omega, rfl, rfl⟩
              case measure => simp [intOf]; omega
            · have ht' : 4294967296 * v < t * y0 := by omega
              have hA1 : t * y0 < 18446744073709551616 := by
                have : t * y0 ≤ 4294967295 * y0 := Int.mul_le_mul_of_nonneg_right (by omega) d1
                omega
              clear ht
              go_wp2
              go_round
              case rel => exact ⟨t - 1, v + y1, HN.out, by omega, rfl, rfl⟩
              case measure => simp [intOf]; omega
        · have hQ : Q2 = t := by have := HI'.out.exit HD2.out (by omega); rw [← HQ2.out] at this; omega
          subst hQ
          have ht' : ¬ 4294967296 * v < Q2 * y0 := by omega
          have hA0 : 0 ≤ Q2 * y0 := Int.mul_nonneg t0 d1
          have hA1 : Q2 * y0 < 18446744073709551616 := by omega
          clear ht HI'
          go_wp2
          go_ret2
          exact ⟨⟨_, rfl⟩, rfl⟩

theorem mask32 (a : Int) (h0 : 0 ≤ a) (h1 : a < 18446744073709551616) : bits .and .u64 a 4294967295 = a % 4294967296 := by
  obtain ⟨n, rfl⟩ := Int.eq_ofNat_of_zero_le h0
  have h := bits_and_u64_nat n 4294967295 (by omega) (by omega)
  have e : n &&& 4294967295 = n % 4294967296 := Nat.and_two_pow_sub_one_eq_mod n 32
  rw [e] at h
  exact h
theorem or0 (a : Int) (h0 : 0 ≤ a) (h1 : a < 18446744073709551616) : bits .or .u64 a 0 = a := by
  obtain ⟨n, rfl⟩ := Int.eq_ofNat_of_zero_le h0
  have h := bits_or_u64_nat n 0 (by omega) (by omega)
  rw [Nat.or_zero] at h
  exact h

/-- math/bits.Div64 at a low word 0 and a high word that is not 0. -/
theorem div64_some (hi y : Int) (w : World) (h0 : 1 ≤ hi) (h2 : hi < y) (h3 : y ≤ 9223372036854775807) :
    Calls Tryf.prog 31 #[.int .u64 hi, .int .u64 0, .int .u64 y] w fun e w' => (∃ r, e = .returned (.tuple #[.int .u64 (hi * 18446744073709551616 / y), .int .u64 r])) ∧ w' = w := by
  -- the shift
  obtain ⟨n1, n2, n3⟩ := Lib.bitLenAux_bounds 64 y.toNat (by omega) (by omega)
  have n4 : Lib.bitLen y.toNat ≤ 63 := Lib.bitLen_le y.toNat 63 (by omega) (by omega)
  have HS : Hid (∀ w, Calls Tryf.prog 34 #[.int .u64 y] w fun e w' => e = .returned (.int .i64 (64 - (Lib.bitLen y.toNat : Int))) ∧ w' = w) :=
    fun w => Tryf.bits_LeadingZeros64 y w (by omega) (by omega)
  change 1 ≤ Lib.bitLen y.toNat at n1
  change 2 ^ (Lib.bitLen y.toNat - 1) ≤ y.toNat at n2
  change y.toNat < 2 ^ Lib.bitLen y.toNat at n3
  generalize Lib.bitLen y.toNat = b at *
  obtain ⟨p, hp⟩ : ∃ p : Int, 2 ^ ((64 : Int) - b).toNat = p := ⟨_, rfl⟩
  have hb : ((64 : Int) - b).toNat = 64 - b := by omega
  have hpN : p = ((2 ^ (64 - b) : Nat) : Int) := by rw [← hp, hb, Int.natCast_pow]; rfl
  have hp0 : 0 < 2 ^ (64 - b) := Nat.two_pow_pos _
  have q1 : 2 ^ (b - 1) * 2 ^ (64 - b) = 9223372036854775808 := by
    rw [← Nat.pow_add, show b - 1 + (64 - b) = 63 by omega]
  have q2 : 2 ^ b * 2 ^ (64 - b) = 18446744073709551616 := by
    rw [← Nat.pow_add, show b + (64 - b) = 64 by omega]
  have a1 : 9223372036854775808 ≤ y * p := by
    have h := Nat.mul_le_mul_right (2 ^ (64 - b)) n2
    rw [q1] at h
    have e : y * p = ((y.toNat * 2 ^ (64 - b) : Nat) : Int) := by rw [hpN, Int.natCast_mul]; congr 1; omega
    rw [e]; omega
  have a2 : y * p < 18446744073709551616 := by
    have h := Nat.mul_lt_mul_of_pos_right n3 hp0
    rw [q2] at h
    have e : y * p = ((y.toNat * 2 ^ (64 - b) : Nat) : Int) := by rw [hpN, Int.natCast_mul]; congr 1; omega
    rw [e]; omega
  have pp : 0 < p := by omega
  have b1 : 0 ≤ hi * p := Int.mul_nonneg (by omega) (by omega)
  have b2 : hi * p < y * p := Int.mul_lt_mul_of_pos_right h2 pp
  have c1 : 2147483648 ≤ y * p / 4294967296 := by omega
  have c2 : y * p / 4294967296 < 4294967296 := by omega
  have hyy : y * p / 4294967296 * 4294967296 + y * p % 4294967296 = y * p := by omega
  have D1 : M.Dig (y * p / 4294967296) (y * p % 4294967296) (hi * p) 0 := ⟨c1, c2, by omega, by omega, b1, by omega, by omega, by omega⟩
  have I1 := M.Inv.start D1
  have R1 := M.digit_range D1
  rw [hyy] at R1
  obtain ⟨r1, r2, r3, r4⟩ := R1
  have D2 : M.Dig (y * p / 4294967296) (y * p % 4294967296) (hi * p * 4294967296 + 0 - (hi * p * 4294967296 + 0) / (y * p) * (y * p)) 0 := ⟨c1, c2, by omega, by omega, r3, by omega, by omega, by omega⟩
  have I2 := M.Inv.start D2
  have R2 := M.digit_range D2
  rw [hyy] at R2
  have F := M.two_digits (y * p) (hi * p) 0 0 (by omega)
  have G := M.scale hi y p pp
  have m1 := Int.mul_nonneg I1.1.q0 (show 0 ≤ y * p / 4294967296 by omega)
  have m2 := Int.mul_nonneg I2.1.q0 (show 0 ≤ y * p / 4294967296 by omega)
  have e1 := I1.1.e
  have e2 := I2.1.e
  have s1 := I1.1.r0
  have s2 := I2.1.r0
  simp only [Int.add_zero] at F G r1 r2 r3 r4 D1 D2 I1 I2 R2 m1 m2 e1 e2 s1 s2
  have hres : hi * p * 4294967296 / (y * p) * 4294967296 + (hi * p * 4294967296 - hi * p * 4294967296 / (y * p) * (y * p)) * 4294967296 / (y * p) = hi * 18446744073709551616 / y := by
    rw [F, G]
  rw [← hres]
  refine div64_hi hi y (64 - b) p (y * p) (hi * p) (y * p / 4294967296) (y * p % 4294967296) _ _ _ (hi * p * 4294967296 - hi * p * 4294967296 / (y * p) * (y * p)) _ _ _ w h0 h2 h3 (by omega) (by omega) hp rfl rfl a1 a2 b1 b2 rfl (mask32 _ (by omega) a2) (or0 _ b1 (by omega)) (by decide) c1 c2 (by omega) (by omega)
    rfl I1.1.q0 I1.1.q1 rfl m1 (by omega) D1 I1 ?_ r1 r2 ?_ r3 r4 rfl I2.1.q0 I2.1.q1 rfl m2 (by omega) D2 I2 ?_ R2.1 R2.2.1 HS
  · show _ = _
    rw [Int.add_zero, hyy]
  · simp only [IntKind.wrap_u64]
    generalize hi * p * 4294967296 / (y * p) * (y * p) = Z at *
    omega
  · show _ = _
    rw [Int.add_zero, hyy]

theorem quo_core (m s1 s2 x T L P1 P2 D E : Int) (w : World) (m0 : 0 ≤ m) (m1 : m < 18446744073709551616) (a0 : 0 ≤ s1) (a1 : s1 ≤ 1) (b0 : 0 ≤ s2) (b1 : s2 ≤ 62) (x0 : 0 ≤ x) (x1 : x < 9223372036854775808)
    (hT : Hid (T = m * x / 18446744073709551616)) (hL : Hid (L = m * x % 18446744073709551616)) (t0 : 0 ≤ T) (t1 : T ≤ x) (hP1 : 2 ^ s1.toNat = P1) (hP2 : 2 ^ s2.toNat = P2) (hD : (x - T) / P1 = D) (d0 : 0 ≤ D) (d1 : D ≤ x - T)
    (hE : (T + D) / P2 = E) (e0 : 0 ≤ E) (e1 : E ≤ T + D) :
    Calls Tryf.prog 37 #[.agg #[.int .u64 m, .int .u8 s1, .int .u8 s2], .int .i64 x] w fun e w' => e = .returned (.int .i64 E) ∧ ∃ c, w' = w.alloc (.cells c 67) := by
  go_enter Tryf.func37, Tryf.ntmps37
  go_wp2_with (go_at_call 38; refine (mul64 m x T L _ m0 m1 x0 (by omega) hT hL).mono ?_; rintro e w' ⟨rfl, rfl⟩)
  go_ret
  exact ⟨rfl, _, rfl⟩

theorem ediv_le_self' (a b : Int) (ha : 0 ≤ a) (hb : 1 ≤ b) : 0 ≤ a / b ∧ a / b ≤ a :=
  ⟨Int.ediv_nonneg ha (by omega), Int.ediv_le_self b ha⟩

theorem quo_any (d m s1 s2 x : Int) (w : World) (h : M.IsDiv d m s1 s2) (x0 : 0 ≤ x) (x1 : x < 9223372036854775808) :
    Calls Tryf.prog 37 #[.agg #[.int .u64 m, .int .u8 s1, .int .u8 s2], .int .i64 x] w fun e w' => e = .returned (.int .i64 (x / d)) ∧ ∃ c, w' = w.alloc (.cells c 67) := by
  have hq := h.q x x0 x1
  have ht := h.t x x0 x1
  have t0 : 0 ≤ m * x / 18446744073709551616 := Int.ediv_nonneg (Int.mul_nonneg h.m0 x0) (by omega)
  have p1 : (1 : Int) ≤ 2 ^ s1.toNat := Int.pow_pos (by decide)
  have p2 : (1 : Int) ≤ 2 ^ s2.toNat := Int.pow_pos (by decide)
  have hD := ediv_le_self' (x - m * x / 18446744073709551616) (2 ^ s1.toNat) (by omega) p1
  have hE := ediv_le_self' (m * x / 18446744073709551616 + (x - m * x / 18446744073709551616) / 2 ^ s1.toNat) (2 ^ s2.toNat) (by omega) p2
  rw [← hq]
  exact quo_core m s1 s2 x _ (m * x % 18446744073709551616) _ _ _ _ w h.m0 h.m1 h.a0 h.a1 h.b0 h.b1 x0 x1 rfl rfl t0 ht rfl rfl rfl hD.1 hD.2 rfl hE.1 hE.2

theorem div64_none (y : Int) (w : World) (h2 : 1 ≤ y) (h3 : y ≤ 9223372036854775807) :
    Calls Tryf.prog 31 #[.int .u64 0, .int .u64 0, .int .u64 y] w fun e w' => e = .returned (.tuple #[.int .u64 0, .int .u64 0]) ∧ w' = w.drew := by
  go_enter Tryf.func31, Tryf.ntmps31
  go_wp2
  go_region
  go_wp2
  go_ret2
  exact ⟨rfl, rfl⟩

theorem newDivisor_some (d l p m : Int) (w : World) (d0 : 1 ≤ d) (d1 : d ≤ 9223372036854775807) (l0 : 1 ≤ l) (l1 : l ≤ 63)
    (HL : Hid (∀ w, Calls Tryf.prog 30 #[.int .u64 (d - 1)] w fun e w' => e = .returned (.int .i64 l) ∧ w' = w))
    (hp : 2 ^ l.toNat = p) (p0 : d ≤ p) (p1 : p < 2 * d) (p2 : p ≤ 9223372036854775808) (m0 : 0 ≤ m) (m1 : m + 1 < 18446744073709551616)
    (HM : Hid (∀ w, Calls Tryf.prog 31 #[.int .u64 (p - d), .int .u64 0, .int .u64 d] w fun e w' => (∃ r, e = .returned (.tuple #[.int .u64 m, .int .u64 r])) ∧ w' = w)) :
    Calls Tryf.prog 27 #[.int .i64 d] w fun e w' => e = .returned (.agg #[.int .u64 (m + 1), .int .u8 1, .int .u8 (l - 1)]) ∧ Kept w w' := by
  go_enter Tryf.func27, Tryf.ntmps27
  go_wp2_with (first | (go_at_call 30; refine (HL.out _).mono ?_; rintro e w' ⟨rfl, rfl⟩) | (go_at_call 31; refine (HM.out _).mono ?_; rintro e w' ⟨⟨r, rfl⟩, rfl⟩))
  all_goals (refine bodyPost_ret (v := .agg #[.int .u64 (m + 1), .int .u8 1, .int .u8 (l - 1)]) ?_ rfl ⟨rfl, by repeat (first | exact Kept.refl _ | apply Kept.drew | apply Kept.alloc)⟩; simp [results, Tryf.results27, go_sem]; try omega)

theorem newDivisor_pow (d l : Int) (w : World) (d0 : 1 ≤ d) (d1 : d ≤ 9223372036854775807) (l0 : 1 ≤ l) (l1 : l ≤ 63)
    (HL : Hid (∀ w, Calls Tryf.prog 30 #[.int .u64 (d - 1)] w fun e w' => e = .returned (.int .i64 l) ∧ w' = w))
    (hp : 2 ^ l.toNat = d) :
    Calls Tryf.prog 27 #[.int .i64 d] w fun e w' => e = .returned (.agg #[.int .u64 1, .int .u8 1, .int .u8 (l - 1)]) ∧ Kept w w' := by
  go_enter Tryf.func27, Tryf.ntmps27
  go_wp2_with (first | (go_at_call 30; refine (HL.out _).mono ?_; rintro e w' ⟨rfl, rfl⟩) | (go_at_call 31; refine (div64_none d _ d0 d1).mono ?_; rintro e w' ⟨rfl, rfl⟩))
  all_goals (refine bodyPost_ret (v := .agg #[.int .u64 1, .int .u8 1, .int .u8 (l - 1)]) ?_ rfl ⟨rfl, by repeat (first | exact Kept.refl _ | apply Kept.drew | apply Kept.alloc)⟩; simp [results, Tryf.results27, go_sem]; try omega)

theorem newDivisor_one (w : World) (HL : Hid (∀ w, Calls Tryf.prog 30 #[.int .u64 0] w fun e w' => e = .returned (.int .i64 0) ∧ w' = w)) :
    Calls Tryf.prog 27 #[.int .i64 1] w fun e w' => e = .returned (.agg #[.int .u64 1, .int .u8 0, .int .u8 0]) ∧ Kept w w' := by
  go_enter Tryf.func27, Tryf.ntmps27
  go_wp2_with (first | (go_at_call 30; refine (HL.out _).mono ?_; rintro e w' ⟨rfl, rfl⟩) | (go_at_call 31; refine (div64_none 1 _ (by decide) (by decide)).mono ?_; rintro e w' ⟨rfl, rfl⟩))
  (refine bodyPost_ret (v := .agg #[.int .u64 1, .int .u8 0, .int .u8 0]) ?_ rfl ⟨rfl, by repeat (first | exact Kept.refl _ | apply Kept.drew | apply Kept.alloc)⟩; simp [results, Tryf.results27, go_sem]; try omega)

theorem newDivisor_any (d : Int) (w : World) (d0 : 1 ≤ d) (d1 : d ≤ 9223372036854775807) :
    Calls Tryf.prog 27 #[.int .i64 d] w fun e w' => (∃ m s1 s2, M.IsDiv d m s1 s2 ∧ e = .returned (.agg #[.int .u64 m, .int .u8 s1, .int .u8 s2])) ∧ Kept w w' := by
  obtain ⟨D, rfl⟩ := Int.eq_ofNat_of_zero_le (show 0 ≤ d by omega)
  by_cases hd1 : D = 1
  · subst hd1
    refine (newDivisor_one w (fun w => len64 0 w (by decide) (by decide))).mono fun e w' ⟨he, hg⟩ => ⟨⟨_, _, _, ?_, he⟩, hg⟩
    exact M.isDiv_nat 1 0 (by decide) (by decide) (by decide) (by decide) (by decide)
  · obtain ⟨n1, n2, n3⟩ := Lib.bitLenAux_bounds 64 (D - 1) (by omega) (by omega)
    have n4 : Lib.bitLen (D - 1) ≤ 63 := Lib.bitLen_le (D - 1) 63 (by omega) (by omega)
    have ed : ((D : Int) - 1).toNat = D - 1 := by omega
    have HL : Hid (∀ w, Calls Tryf.prog 30 #[.int .u64 ((D : Int) - 1)] w fun e w' => e = .returned (.int .i64 (Lib.bitLen (D - 1) : Nat)) ∧ w' = w) := by
      intro w
      have := len64 ((D : Int) - 1) w (by omega) (by omega)
      rw [ed] at this
      exact this
    change 1 ≤ Lib.bitLen (D - 1) at n1
    change 2 ^ (Lib.bitLen (D - 1) - 1) ≤ D - 1 at n2
    change D - 1 < 2 ^ Lib.bitLen (D - 1) at n3
    generalize Lib.bitLen (D - 1) = l at *
    have hl2 : 2 ^ l = 2 * 2 ^ (l - 1) := by rw [Nat.mul_comm, ← Nat.pow_succ]; congr 1; omega
    have hle : D ≤ 2 ^ l := by omega
    have hlt : 2 ^ l < 2 * D := by omega
    have hcap : 2 ^ l ≤ 9223372036854775808 := by
      have := Nat.pow_le_pow_right (show 0 < 2 by decide) n4
      omega
    have hdv := M.isDiv_nat D l (by omega) (by omega) hle hlt n4
    have hmin : min l 1 = 1 := by omega
    have hmax : max l 1 - 1 = l - 1 := by omega
    rw [hmin, hmax, show ((l - 1 : Nat) : Int) = (l : Int) - 1 by omega] at hdv
    have hpow : (2 : Int) ^ ((l : Nat) : Int).toNat = ((2 ^ l : Nat) : Int) := by rw [Int.toNat_natCast, Int.natCast_pow]; rfl
    by_cases heq : 2 ^ l = D
    · refine (newDivisor_pow D l w d0 d1 (by omega) (by omega) HL (by rw [hpow, heq])).mono fun e w' ⟨he, hg⟩ => ⟨⟨_, _, _, ?_, he⟩, hg⟩
      rw [heq, Nat.sub_self, Nat.mul_zero, Nat.zero_div] at hdv
      exact hdv
    · have hm := M.gm_m 18446744073709551616 D l (by omega) (by omega) hlt
      have em : (((2 ^ l : Nat) : Int) - (D : Int)) * 18446744073709551616 / (D : Int) = ((18446744073709551616 * (2 ^ l - D) / D : Nat) : Int) := by
        rw [Nat.mul_comm, ← Int.natCast_sub hle, Int.natCast_ediv, Int.natCast_mul]; rfl
      refine (newDivisor_some D l ((2 ^ l : Nat) : Int) _ w d0 d1 (by omega) (by omega) HL hpow (by omega) (by omega) (by omega) ?_ ?_ (fun w => div64_some (((2 ^ l : Nat) : Int) - (D : Int)) D w (by omega) (by omega) d1)).mono fun e w' ⟨he, hg⟩ => ⟨⟨_, _, _, ?_, he⟩, hg⟩
      · rw [em]; exact Int.natCast_nonneg _
      · rw [em]; exact Int.ofNat_lt.2 hm
      · rw [em]; exact hdv
end Go.Proofs.Qxb6609109aFmt
