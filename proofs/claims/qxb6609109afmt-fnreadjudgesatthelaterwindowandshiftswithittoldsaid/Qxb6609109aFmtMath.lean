/-
  PLAIN ARITHMETIC for the seat: division by an invariant integer with a multiplication (Granlund and Montgomery), and the two-digit division of math/bits.Div64 (Knuth D). No Go in sight.
-/
namespace Go.Proofs.Qxb6609109aFmt.M

/-! ### Granlund and Montgomery -/
theorem gm_core (W d l x : Nat) (hd : 1 ≤ d) (hl : d ≤ 2 ^ l) (hx : x < W) (m : Nat) (hm : m = W * (2 ^ l - d) / d + 1) :
    (x + m * x / W) / 2 ^ l = x / d := by
  have hW : 0 < W := by omega
  have hL : 0 < 2 ^ l := Nat.two_pow_pos l
  have hxm : x + m * x / W = ((W + m) * x) / W := by
    rw [Nat.add_mul, Nat.add_comm (W * x), Nat.add_mul_div_left _ _ hW, Nat.add_comm]
  rw [hxm, Nat.div_div_eq_div_mul]
  -- M = W + m ; M * d = W * 2^l + e, 1 ≤ e ≤ d
  have hdm := Nat.div_add_mod (W * (2 ^ l - d)) d
  have hlt := Nat.mod_lt (W * (2 ^ l - d)) hd
  have hsub : W * (2 ^ l - d) = W * 2 ^ l - W * d := Nat.mul_sub W _ _
  have hle : W * d ≤ W * 2 ^ l := Nat.mul_le_mul_left W hl
  have hMd : (W + m) * d = W * d + d * (W * (2 ^ l - d) / d) + d := by
    rw [hm, Nat.add_mul, Nat.add_mul, Nat.mul_comm d, Nat.one_mul, Nat.add_assoc]
  have h1 : W * 2 ^ l ≤ (W + m) * d := by omega
  have h2 : (W + m) * d ≤ W * 2 ^ l + d := by omega
  have hx0 := Nat.div_add_mod x d
  have hxr := Nat.mod_lt x hd
  generalize hq : x / d = q at *
  refine Nat.div_eq_of_lt_le ?_ ?_
  · -- q * (W * 2^l) ≤ M * x
    calc q * (W * 2 ^ l) ≤ q * ((W + m) * d) := Nat.mul_le_mul_left q h1
      _ = (W + m) * (d * q) := by rw [Nat.mul_left_comm, Nat.mul_comm q d]
      _ ≤ (W + m) * x := Nat.mul_le_mul_left _ (by omega)
  · -- M * x < (q+1) * (W * 2^l)
    have h3 : (W + m) * x * d < (q + 1) * (W * 2 ^ l) * d := by
      have a1 : (W + m) * x * d = ((W + m) * d) * x := by rw [Nat.mul_right_comm]
      have a2 : ((W + m) * d) * x ≤ (W * 2 ^ l + d) * x := Nat.mul_le_mul_right x h2
      have a3 : (W * 2 ^ l + d) * x = (W * 2 ^ l) * x + d * x := Nat.add_mul _ _ _
      have a4 : d * x < 2 ^ l * W := by
        calc d * x ≤ 2 ^ l * x := Nat.mul_le_mul_right x hl
          _ < 2 ^ l * W := Nat.mul_lt_mul_of_pos_left hx hL
      have a5 : (W * 2 ^ l) * x + 2 ^ l * W = (W * 2 ^ l) * (x + 1) := by rw [Nat.mul_add, Nat.mul_one, Nat.mul_comm (2 ^ l) W]
      have a6 : x + 1 ≤ (q + 1) * d := by rw [Nat.add_mul, Nat.one_mul, Nat.mul_comm]; omega
      have a7 : (W * 2 ^ l) * (x + 1) ≤ (W * 2 ^ l) * ((q + 1) * d) := Nat.mul_le_mul_left _ a6
      have a8 : (W * 2 ^ l) * ((q + 1) * d) = (q + 1) * (W * 2 ^ l) * d := by rw [← Nat.mul_assoc, Nat.mul_comm (W * 2 ^ l)]
      omega
    exact Nat.lt_of_mul_lt_mul_right h3

/-- the multiplier is below the word -/
theorem gm_m (W d l : Nat) (hd : 1 ≤ d) (hdW : d < W) (hlt : 2 ^ l < 2 * d) : W * (2 ^ l - d) / d + 1 < W := by
  have h : W * (2 ^ l - d) / d < W - 1 := by
    rw [Nat.div_lt_iff_lt_mul (by omega)]
    have a1 : W * (2 ^ l - d) ≤ W * (d - 1) := Nat.mul_le_mul_left W (by omega)
    have a2 : W * (d - 1) = W * d - W := by rw [Nat.mul_sub, Nat.mul_one]
    have a3 : (W - 1) * d = W * d - d := by rw [Nat.sub_mul, Nat.one_mul]
    have a4 : W * 1 ≤ W * d := Nat.mul_le_mul_left W hd
    omega
  omega

theorem gm_t (W m x : Nat) (hm : m < W) : m * x / W ≤ x := by
  have : m * x ≤ x * W := by rw [Nat.mul_comm]; exact Nat.mul_le_mul_left x (by omega)
  exact Nat.div_le_of_le_mul (by rw [Nat.mul_comm W]; exact this)

/-- what the two shifts compute -/
theorem gm (W d l x : Nat) (hd : 1 ≤ d) (hdW : d < W) (hl : d ≤ 2 ^ l) (hlt : 2 ^ l < 2 * d) (hx : x < W) (m : Nat) (hm : m = W * (2 ^ l - d) / d + 1) :
    (m * x / W + (x - m * x / W) / 2 ^ min l 1) / 2 ^ (max l 1 - 1) = x / d := by
  have hc := gm_core W d l x hd hl hx m hm
  have ht := gm_t W m x (by rw [hm]; exact gm_m W d l hd hdW hlt)
  generalize m * x / W = t at *
  rcases Nat.eq_zero_or_pos l with h0 | h0
  · subst h0
    have e : min 0 1 = 0 := rfl
    have e' : max 0 1 - 1 = 0 := rfl
    rw [e, e']
    have hd1 : d = 1 := by simp only [Nat.pow_zero] at hl; omega
    subst hd1
    simp only [Nat.pow_zero, Nat.div_one] at hc ⊢
    omega
  · have e : min l 1 = 1 := by omega
    have e' : max l 1 - 1 = l - 1 := by omega
    have e2 : t + (x - t) / 2 ^ 1 = (x + t) / 2 := by omega
    rw [e, e', e2, Nat.div_div_eq_div_mul]
    have e3 : 2 * 2 ^ (l - 1) = 2 ^ l := by rw [Nat.mul_comm, ← Nat.pow_succ]; congr 1; omega
    rw [e3]; exact hc

/-! ### Knuth D, one digit. b = 2^32. The invariant of the loop: q * y1 + r = u, u1 + r * b < q * y0 + y. -/
structure Dig (y1 y0 u u1 : Int) : Prop where
  a1 : 2147483648 ≤ y1
  a2 : y1 < 4294967296
  b1 : 0 ≤ y0
  b2 : y0 < 4294967296
  c1 : 0 ≤ u
  c2 : u < y1 * 4294967296 + y0
  d1 : 0 ≤ u1
  d2 : u1 < 4294967296

structure Inv (y1 y0 u u1 q r : Int) : Prop where
  e : q * y1 + r = u
  r0 : 0 ≤ r
  q0 : 0 ≤ q
  q1 : q ≤ 4294967297
  i : u1 + r * 4294967296 < q * y0 + (y1 * 4294967296 + y0)

theorem Inv.start {y1 y0 u u1 : Int} (h : Dig y1 y0 u u1) : Inv y1 y0 u u1 (u / y1) (u - u / y1 * y1) ∧ u - u / y1 * y1 < y1 := by
  obtain ⟨a1, a2, b1, b2, c1, c2, d1, d2⟩ := h
  have hq0 : 0 ≤ u / y1 := Int.ediv_nonneg c1 (by omega)
  have hm := Int.mul_ediv_add_emod u y1
  have hm0 := Int.emod_nonneg u (show y1 ≠ 0 by omega)
  have hm1 := Int.emod_lt_of_pos u (show 0 < y1 by omega)
  have hA : 0 ≤ u / y1 * y0 := Int.mul_nonneg hq0 b1
  rw [Int.mul_comm] at hm
  generalize hq : u / y1 = q at *
  have hq1 : q ≤ 4294967297 := by
    rcases Int.lt_or_le 4294967297 q with hlt | hle
    · exfalso
      have : 4294967298 * y1 ≤ q * y1 := Int.mul_le_mul_of_nonneg_right (by omega) (by omega)
      omega
    · exact hle
  exact ⟨⟨by omega, by omega, hq0, hq1, by omega⟩, by omega⟩

/-- the test says no: the digit is found -/
theorem Inv.exit {y1 y0 u u1 q r : Int} (h : Dig y1 y0 u u1) (hi : Inv y1 y0 u u1 q r) (ht : q * y0 ≤ 4294967296 * r + u1) :
    q = (u * 4294967296 + u1) / (y1 * 4294967296 + y0) := by
  obtain ⟨a1, a2, b1, b2, c1, c2, d1, d2⟩ := h
  obtain ⟨e, r0, q0, q1, i⟩ := hi
  have hP : (y1 * 4294967296 + y0) * q = (q * y1) * 4294967296 + q * y0 := by
    rw [Int.mul_comm, Int.mul_add, Int.mul_assoc]
  refine (Int.ediv_eq_iff_of_pos (by omega) |>.2 ?_).symm
  rw [Int.mul_comm q]
  constructor <;> omega

/-- a round: the digit is one too great at least -/
theorem Inv.round {y1 y0 u u1 q r : Int} (h : Dig y1 y0 u u1) (hi : Inv y1 y0 u u1 q r) (ht : 4294967296 ≤ q ∨ 4294967296 * r + u1 < q * y0) :
    Inv y1 y0 u u1 (q - 1) (r + y1) ∧ q - 1 ≤ 4294967296 := by
  obtain ⟨a1, a2, b1, b2, c1, c2, d1, d2⟩ := h
  obtain ⟨e, r0, q0, q1, i⟩ := hi
  have e1 : (q - 1) * y1 = q * y1 - y1 := by rw [Int.sub_mul, Int.one_mul]
  have e2 : (q - 1) * y0 = q * y0 - y0 := by rw [Int.sub_mul, Int.one_mul]
  have hA : 4294967296 ≤ q → 4294967296 * y0 ≤ q * y0 := fun hh => Int.mul_le_mul_of_nonneg_right hh b1
  have hB : 4294967296 ≤ q → 4294967296 * y1 ≤ q * y1 := fun hh => Int.mul_le_mul_of_nonneg_right hh (by omega)
  have hq : 1 ≤ q := by
    rcases ht with ht | ht
    · omega
    · rcases Int.lt_or_le q 1 with hh | hh
      · have hz : q = 0 := by omega
        rw [hz, Int.zero_mul] at ht; omega
      · exact hh
  have key : u1 + r * 4294967296 < q * y0 := by
    rcases ht with ht | ht
    · have := hA ht; have := hB ht; omega
    · omega
  exact ⟨⟨by rw [e1]; omega, by omega, by omega, by omega, by rw [e2]; omega⟩, by omega⟩

/-- the break: the remainder has left the digit's range -/
theorem Inv.broke {y1 y0 u u1 q r : Int} (h : Dig y1 y0 u u1) (hi : Inv y1 y0 u u1 q r) (hq : q ≤ 4294967296) (hr : 4294967296 ≤ r) :
    q = (u * 4294967296 + u1) / (y1 * 4294967296 + y0) := by
  refine hi.exit h ?_
  obtain ⟨a1, a2, b1, b2, c1, c2, d1, d2⟩ := h
  have : q * y0 ≤ 4294967296 * y0 := Int.mul_le_mul_of_nonneg_right hq b1
  omega

/-- the range of the digit -/
theorem digit_range {y1 y0 u u1 : Int} (h : Dig y1 y0 u u1) : 0 ≤ (u * 4294967296 + u1) / (y1 * 4294967296 + y0) ∧ (u * 4294967296 + u1) / (y1 * 4294967296 + y0) < 4294967296 ∧
    0 ≤ u * 4294967296 + u1 - (u * 4294967296 + u1) / (y1 * 4294967296 + y0) * (y1 * 4294967296 + y0) ∧ u * 4294967296 + u1 - (u * 4294967296 + u1) / (y1 * 4294967296 + y0) * (y1 * 4294967296 + y0) < y1 * 4294967296 + y0 := by
  obtain ⟨a1, a2, b1, b2, c1, c2, d1, d2⟩ := h
  generalize hy : y1 * 4294967296 + y0 = y at *
  have hy0 : 0 < y := by omega
  have hm := Int.mul_ediv_add_emod (u * 4294967296 + u1) y
  have hm0 := Int.emod_nonneg (u * 4294967296 + u1) (show y ≠ 0 by omega)
  have hm1 := Int.emod_lt_of_pos (u * 4294967296 + u1) hy0
  rw [Int.mul_comm] at hm
  refine ⟨Int.ediv_nonneg (by omega) (by omega), ?_, by omega, by omega⟩
  refine Int.ediv_lt_of_lt_mul hy0 ?_
  omega

/-- two digits make the quotient -/
theorem two_digits (y u u1 u0 : Int) (hy : 0 < y) :
    (u * 4294967296 + u1) / y * 4294967296 + ((u * 4294967296 + u1 - (u * 4294967296 + u1) / y * y) * 4294967296 + u0) / y = ((u * 4294967296 + u1) * 4294967296 + u0) / y := by
  generalize u * 4294967296 + u1 = N
  have e : N * 4294967296 + u0 = ((N - N / y * y) * 4294967296 + u0) + (N / y * 4294967296) * y := by
    rw [Int.sub_mul, Int.mul_right_comm]; omega
  rw [e, Int.add_mul_ediv_right _ _ (by omega), Int.add_comm]

theorem scale (hi y p : Int) (hp : 0 < p) : hi * p * 4294967296 * 4294967296 / (y * p) = hi * 18446744073709551616 / y := by
  have e : hi * p * 4294967296 * 4294967296 = hi * 18446744073709551616 * p := by
    rw [Int.mul_right_comm hi p, Int.mul_right_comm _ p, Int.mul_assoc hi]
    rfl
  rw [e, Int.mul_ediv_mul_of_pos_left _ _ hp]

/-! ### What a divisor is -/
structure IsDiv (d m s1 s2 : Int) : Prop where
  m0 : 0 ≤ m
  m1 : m < 18446744073709551616
  a0 : 0 ≤ s1
  a1 : s1 ≤ 1
  b0 : 0 ≤ s2
  b1 : s2 ≤ 62
  t : ∀ x : Int, 0 ≤ x → x < 9223372036854775808 → m * x / 18446744073709551616 ≤ x
  q : ∀ x : Int, 0 ≤ x → x < 9223372036854775808 → (m * x / 18446744073709551616 + (x - m * x / 18446744073709551616) / 2 ^ s1.toNat) / 2 ^ s2.toNat = x / d

theorem isDiv_nat (D l : Nat) (hd : 1 ≤ D) (hD : D < 18446744073709551616) (hl : D ≤ 2 ^ l) (hlt : 2 ^ l < 2 * D) (l63 : l ≤ 63) :
    IsDiv (D : Int) ((18446744073709551616 * (2 ^ l - D) / D + 1 : Nat) : Int) ((min l 1 : Nat) : Int) ((max l 1 - 1 : Nat) : Int) := by
  have hm := gm_m 18446744073709551616 D l hd hD hlt
  refine ⟨Int.natCast_nonneg _, Int.ofNat_lt.2 hm, by omega, by omega, by omega, by omega, fun x x0 x1 => ?_, fun x x0 x1 => ?_⟩
  · obtain ⟨X, rfl⟩ := Int.eq_ofNat_of_zero_le x0
    have ht := gm_t 18446744073709551616 _ X hm
    have e : ((18446744073709551616 * (2 ^ l - D) / D + 1 : Nat) : Int) * (X : Int) / 18446744073709551616 = (((18446744073709551616 * (2 ^ l - D) / D + 1) * X / 18446744073709551616 : Nat) : Int) := by
      rw [← Int.natCast_mul, Int.natCast_ediv]; rfl
    rw [e]; exact Int.ofNat_le.2 ht
  · obtain ⟨X, rfl⟩ := Int.eq_ofNat_of_zero_le x0
    have hx : X < 18446744073709551616 := by omega
    have ht := gm_t 18446744073709551616 _ X hm
    have hq := gm 18446744073709551616 D l X hd hD hl hlt hx _ rfl
    have e : ((18446744073709551616 * (2 ^ l - D) / D + 1 : Nat) : Int) * (X : Int) / 18446744073709551616 = (((18446744073709551616 * (2 ^ l - D) / D + 1) * X / 18446744073709551616 : Nat) : Int) := by
      rw [← Int.natCast_mul, Int.natCast_ediv]; rfl
    rw [e, Int.toNat_natCast, Int.toNat_natCast, ← Int.natCast_sub ht]
    have p (k : Nat) : (2 : Int) ^ k = ((2 ^ k : Nat) : Int) := by rw [Int.natCast_pow]; rfl
    rw [p, p, ← Int.natCast_ediv, ← Int.natCast_add, ← Int.natCast_ediv, hq, Int.natCast_ediv]
end Go.Proofs.Qxb6609109aFmt.M
