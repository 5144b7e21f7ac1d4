/-
  PLAIN LAWS on the grammar of a numeral: a sign, leading digits, leading zeros dropped; what Lib.atoiAll answers there; the order of canonical digits. No Go in sight.
-/
import Derived.Test.Qxb6614734aDoorPlain
namespace Go.Proofs.Qxb6614734aDoor.D
open Go.Lib

/-- The leading digits. -/
theorem lead_split (l : List UInt8) : ∃ ds t, l = ds ++ t ∧ (∀ c ∈ ds, isDig c) ∧ (t = [] ∨ ∃ x r, t = x :: r ∧ ¬ isDig x) := by
  induction l with
  | nil => exact ⟨[], [], rfl, by simp, .inl rfl⟩
  | cons c r ih =>
    by_cases hc : isDig c
    · obtain ⟨ds, t, rfl, hd, ht⟩ := ih
      refine ⟨c :: ds, t, rfl, ?_, ht⟩
      intro x hx
      rcases List.mem_cons.1 hx with rfl | hx
      · exact hc
      · exact hd x hx
    · exact ⟨[], c :: r, rfl, by simp, .inr ⟨c, r, rfl, hc⟩⟩

/-- Digits without a leading zero, but for zero itself. -/
def Canon (d : List UInt8) : Prop := (∀ c ∈ d, isDig c) ∧ ((∃ c, d = [c]) ∨ ∃ c r, d = c :: r ∧ c ≠ 48)

theorem zero_split (ds : List UInt8) : ds ≠ [] → (∀ c ∈ ds, isDig c) → ∃ zs d, ds = zs ++ d ∧ (∀ c ∈ zs, c = 48) ∧ Canon d := by
  induction ds with
  | nil => intro h; exact absurd rfl h
  | cons c r ih =>
    intro _ hd
    by_cases hc : c = 48
    · by_cases hr : r = []
      · subst hr
        exact ⟨[], [c], rfl, by simp, hd, .inl ⟨c, rfl⟩⟩
      · obtain ⟨zs, d, rfl, hz, hcn⟩ := ih hr (fun x hx => hd x (List.mem_cons_of_mem _ hx))
        refine ⟨c :: zs, d, rfl, ?_, hcn⟩
        intro x hx
        rcases List.mem_cons.1 hx with rfl | hx
        · exact hc
        · exact hz x hx
    · exact ⟨[], c :: r, rfl, by simp, hd, .inr ⟨c, r, rfl, hc⟩⟩

theorem Canon.ne {d : List UInt8} (h : Canon d) : d ≠ [] := by
  rcases h.2 with ⟨c, rfl⟩ | ⟨c, r, rfl, _⟩ <;> simp

theorem dval_zeros (zs d : List UInt8) (hz : ∀ c ∈ zs, c = 48) : dval 0 (zs ++ d) = dval 0 d := by
  induction zs with
  | nil => rfl
  | cons c r ih =>
    have hc := hz c (List.mem_cons_self ..)
    subst hc
    show dval (0 * 10 + ((48 : UInt8).toNat - 48)) (r ++ d) = dval 0 d
    exact ih (fun x hx => hz x (List.mem_cons_of_mem _ hx))

theorem dval_pos (c : UInt8) (r : List UInt8) (hc : isDig c) (h : c ≠ 48) : 1 ≤ dval 0 (c :: r) := by
  have h1 : c.toNat ≠ 48 := fun e => h (UInt8.toNat_inj.1 e)
  have h2 := hc.1
  have := dval_ge r (0 * 10 + (c.toNat - 48))
  show 1 ≤ dval (0 * 10 + (c.toNat - 48)) r
  generalize dval (0 * 10 + (c.toNat - 48)) r = v at *
  omega

theorem digit_back (c : UInt8) (h : isDig c) : UInt8.ofNat (48 + (c.toNat - 48)) = c := by
  have := h.1
  rw [show 48 + (c.toNat - 48) = c.toNat by omega]
  exact UInt8.ofNat_toNat

/-- Canonical digits are what their value is written as. -/
theorem canon_dec : ∀ (n : Nat) (d : List UInt8), d.length = n → Canon d → decDigits (dval 0 d) = d := by
  intro n
  induction n using Nat.strongRecOn with
  | ind n ih =>
    intro d hn hc
    obtain ⟨hd, hh⟩ := hc
    rcases List.eq_nil_or_concat d with rfl | ⟨d', c, rfl⟩
    · rcases hh with ⟨c, h⟩ | ⟨c, r, h, _⟩ <;> cases h
    · rw [List.concat_eq_append] at *
      have hcd : isDig c := hd c (by simp)
      have hval : dval 0 (d' ++ [c]) = dval 0 d' * 10 + (c.toNat - 48) := dval_append d' [c] 0
      have h9 := hcd.2
      have h0 := hcd.1
      by_cases he : d' = []
      · subst he
        rw [hval, decDigits]
        split
        · show [UInt8.ofNat (48 + (0 * 10 + (c.toNat - 48)))] = [c]
          rw [Nat.zero_mul, Nat.zero_add, digit_back c hcd]
        · rename_i h
          exact absurd (show 0 * 10 + (c.toNat - 48) < 10 by omega) h
      · have hcan : Canon d' := by
          refine ⟨fun x hx => hd x (by simp [hx]), ?_⟩
          rcases hh with ⟨x, h⟩ | ⟨x, r, h, hx⟩
          · cases d' with
            | nil => exact absurd rfl he
            | cons a b => simp at h
          · cases d' with
            | nil => exact absurd rfl he
            | cons a b =>
              simp at h
              exact .inr ⟨a, b, rfl, by rw [h.1]; exact hx⟩
        have hpos : 1 ≤ dval 0 d' := by
          rcases hh with ⟨x, h⟩ | ⟨x, r, h, hx⟩
          · cases d' with
            | nil => exact absurd rfl he
            | cons a b => simp at h
          · cases d' with
            | nil => exact absurd rfl he
            | cons a b =>
              simp at h
              exact dval_pos a b (hd a (by simp)) (by rw [h.1]; exact hx)
        have hi := ih d'.length (by simp at hn; omega) d' rfl hcan
        rw [hval]
        generalize dval 0 d' = v at *
        rw [decDigits]
        split
        · rename_i h; omega
        · rw [show (v * 10 + (c.toNat - 48)) / 10 = v by omega, show (v * 10 + (c.toNat - 48)) % 10 = c.toNat - 48 by omega, hi, digit_back c hcd]

/-! ### the order of digits -/
theorem dval_cons (acc : Nat) (c : UInt8) (r : List UInt8) : dval acc (c :: r) = dval (acc * 10 + (c.toNat - 48)) r := by
  have h : ∀ n, acc * 10 + (c.toNat - 48) = n → dval acc (c :: r) = dval n r := by
    intro n h
    show dval (acc * 10 + (c.toNat - 48)) r = dval n r
    rw [h]
  exact h _ rfl
theorem dval_nil (acc : Nat) : dval acc [] = acc := by
  have h : ∀ n, acc = n → dval acc [] = n := by
    intro n h
    show acc = n
    exact h
  exact h _ rfl
theorem dval_acc (l : List UInt8) : ∀ acc, dval acc l = acc * 10 ^ l.length + dval 0 l := by
  induction l with
  | nil =>
    intro acc
    rw [dval_nil, dval_nil, List.length_nil, Nat.pow_zero]; omega
  | cons c r ih =>
    intro acc
    rw [dval_cons, dval_cons, List.length_cons, ih (acc * 10 + (c.toNat - 48)), ih (0 * 10 + (c.toNat - 48)), Nat.pow_succ]
    generalize 10 ^ r.length = p
    generalize dval 0 r = v
    generalize c.toNat - 48 = x
    rw [Nat.add_mul, Nat.add_mul, Nat.mul_assoc acc 10 p, Nat.mul_comm 10 p]
    omega

theorem dval_lt (l : List UInt8) (h : ∀ c ∈ l, isDig c) : dval 0 l < 10 ^ l.length := by
  induction l with
  | nil => rw [dval_nil, List.length_nil, Nat.pow_zero]; omega
  | cons c r ih =>
    have hi := ih (fun x hx => h x (List.mem_cons_of_mem _ hx))
    have hc := (h c (List.mem_cons_self ..)).2
    rw [dval_cons, List.length_cons, dval_acc, Nat.pow_succ]
    generalize 10 ^ r.length = p at *
    generalize dval 0 r = v at *
    have : (0 * 10 + (c.toNat - 48)) * p ≤ 9 * p := Nat.mul_le_mul_right p (by omega)
    omega

theorem dval_low (c : UInt8) (r : List UInt8) (hc : isDig c) (h : c ≠ 48) : 10 ^ r.length ≤ dval 0 (c :: r) := by
  have h1 : c.toNat ≠ 48 := fun e => h (UInt8.toNat_inj.1 e)
  have h2 := hc.1
  rw [dval_cons, dval_acc]
  generalize 10 ^ r.length = p at *
  have : 1 * p ≤ (0 * 10 + (c.toNat - 48)) * p := Nat.mul_le_mul_right p (by omega)
  omega

/-- The order of two digit strings of one length, from the left. -/
def gt : List UInt8 → List UInt8 → Bool
  | a :: as, b :: bs => if a = b then gt as bs else decide (b.toNat < a.toNat)
  | _, _ => false

theorem gt_val : ∀ (a b : List UInt8), a.length = b.length → (∀ c ∈ a, isDig c) → (∀ c ∈ b, isDig c) → gt a b = decide (dval 0 b < dval 0 a)
  | [], [], _, _, _ => by simp [gt]
  | [], _ :: _, h, _, _ => by simp at h
  | _ :: _, [], h, _, _ => by simp at h
  | a :: as, b :: bs, h, ha, hb => by
    have hl : as.length = bs.length := by simpa using h
    have ih := gt_val as bs hl (fun x hx => ha x (List.mem_cons_of_mem _ hx)) (fun x hx => hb x (List.mem_cons_of_mem _ hx))
    have l1 := dval_lt as (fun x hx => ha x (List.mem_cons_of_mem _ hx))
    have l2 := dval_lt bs (fun x hx => hb x (List.mem_cons_of_mem _ hx))
    have d1 := ha a (List.mem_cons_self ..)
    have d2 := hb b (List.mem_cons_self ..)
    unfold isDig at d1 d2
    have e1 : dval 0 (a :: as) = (a.toNat - 48) * 10 ^ as.length + dval 0 as := by
      rw [dval_cons, dval_acc]; simp
    have e2 : dval 0 (b :: bs) = (b.toNat - 48) * 10 ^ as.length + dval 0 bs := by
      rw [dval_cons, dval_acc, hl]; simp
    rw [hl] at l1
    rw [e1, e2, hl]
    simp only [gt]
    by_cases e : a = b
    · subst e
      rw [if_pos rfl, ih]
      simp
    · rw [if_neg e]
      have hne : a.toNat ≠ b.toNat := fun h => e (UInt8.toNat_inj.1 h)
      generalize 10 ^ bs.length = p at *
      generalize dval 0 as = x at *
      generalize dval 0 bs = y at *
      by_cases hlt : b.toNat < a.toNat
      · rw [decide_eq_true hlt]
        symm
        apply decide_eq_true
        have : (b.toNat - 48 + 1) * p ≤ (a.toNat - 48) * p := Nat.mul_le_mul_right p (by omega)
        rw [Nat.add_mul] at this
        omega
      · rw [decide_eq_false hlt]
        symm
        apply decide_eq_false
        have : (a.toNat - 48 + 1) * p ≤ (b.toNat - 48) * p := Nat.mul_le_mul_right p (by omega)
        rw [Nat.add_mul] at this
        omega

def greater (a b : List UInt8) : Bool := if a.length = b.length then gt a b else decide (b.length < a.length)

theorem canon_shorter (a b : List UInt8) (ha : ∀ c ∈ a, isDig c) (ha1 : 1 ≤ a.length) (hb : Canon b) (h : a.length < b.length) : dval 0 a < dval 0 b := by
  rcases hb.2 with ⟨c, rfl⟩ | ⟨c, r, rfl, hc⟩
  · rw [List.length_cons, List.length_nil] at h; omega
  · have l1 := dval_lt a ha
    have l2 := dval_low c r (hb.1 c (by simp)) hc
    have l3 : 10 ^ a.length ≤ 10 ^ r.length := Nat.pow_le_pow_right (by omega) (by simp at h; omega)
    omega

theorem greater_val (a b : List UInt8) (ha : Canon a) (hb : Canon b) : greater a b = decide (dval 0 b < dval 0 a) := by
  have na : 1 ≤ a.length := by cases a with | nil => exact absurd rfl ha.ne | cons _ _ => simp
  have nb : 1 ≤ b.length := by cases b with | nil => exact absurd rfl hb.ne | cons _ _ => simp
  unfold greater
  by_cases h : a.length = b.length
  · rw [if_pos h, gt_val a b h ha.1 hb.1]
  · rw [if_neg h]
    by_cases h' : b.length < a.length
    · rw [decide_eq_true h', decide_eq_true (canon_shorter b a hb.1 nb ha h')]
    · have := canon_shorter a b ha.1 na hb (by omega)
      rw [decide_eq_false h', decide_eq_false (by omega)]

/-! ### what Atoi answers behind a sign -/
/-- l is a sign (or none) and then r. -/
def Signed (l r : List UInt8) (neg : Bool) : Prop :=
  (neg = false ∧ l = r ∧ (r = [] ∨ ∃ c q, r = c :: q ∧ c.toNat ≠ 43 ∧ c.toNat ≠ 45)) ∨ (neg = false ∧ l = 43 :: r) ∨ (neg = true ∧ l = 45 :: r)

theorem signed_some (l : List UInt8) : ∃ r neg, Signed l r neg := by
  cases l with
  | nil => exact ⟨[], false, .inl ⟨rfl, rfl, .inl rfl⟩⟩
  | cons c q =>
    by_cases h1 : c = 43
    · exact ⟨q, false, .inr (.inl ⟨rfl, by rw [h1]⟩)⟩
    · by_cases h2 : c = 45
      · exact ⟨q, true, .inr (.inr ⟨rfl, by rw [h2]⟩)⟩
      · exact ⟨c :: q, false, .inl ⟨rfl, rfl, .inr ⟨c, q, rfl, fun h => h1 (UInt8.toNat_inj.1 h), fun h => h2 (UInt8.toNat_inj.1 h)⟩⟩⟩

theorem atoi_signed_ok {l r : List UInt8} {neg : Bool} (h : Signed l r neg) (u : Nat) (hu : parseMag r = .ok u) :
    atoiAll l = if neg = false ∧ 9223372036854775808 ≤ u then .range else if neg = true ∧ 9223372036854775808 < u then .range else .ok (if neg = true then -(u : Int) else u) := by
  rcases h with ⟨rfl, rfl, h⟩ | ⟨rfl, rfl⟩ | ⟨rfl, rfl⟩
  · rcases h with rfl | ⟨c, q, rfl, h1, h2⟩
    · cases hu
    · simp only [atoiAll]
      rw [if_neg (by omega), hu]
      simp [h2]
  · have e : (43 : UInt8).toNat = 43 := rfl
    simp only [atoiAll, e, true_or, if_true, hu]
    simp
  · have e : (45 : UInt8).toNat = 45 := rfl
    simp only [atoiAll, e, or_true, if_true, hu]
    simp

theorem atoi_signed_range {l r : List UInt8} {neg : Bool} (h : Signed l r neg) (hu : parseMag r = .range) : atoiAll l = .range := by
  rcases h with ⟨rfl, rfl, h⟩ | ⟨rfl, rfl⟩ | ⟨rfl, rfl⟩
  · rcases h with rfl | ⟨c, q, rfl, h1, h2⟩
    · cases hu
    · simp only [atoiAll]
      rw [if_neg (by omega), hu]
  · have e : (43 : UInt8).toNat = 43 := rfl
    simp only [atoiAll, e, true_or, if_true, hu]
  · have e : (45 : UInt8).toNat = 45 := rfl
    simp only [atoiAll, e, or_true, if_true, hu]

theorem atoi_signed_bad {l r : List UInt8} {neg : Bool} (h : Signed l r neg) (hu : parseMag r = parseMag []) : atoiAll l = atoiAll [] := by
  have hn : parseMag [] = parseMag ([] : List UInt8) := rfl
  rcases h with ⟨rfl, rfl, h⟩ | ⟨rfl, rfl⟩ | ⟨rfl, rfl⟩
  · rcases h with rfl | ⟨c, q, rfl, h1, h2⟩
    · rfl
    · simp only [atoiAll]
      rw [if_neg (by omega), hu]
      rfl
  · have e : (43 : UInt8).toNat = 43 := rfl
    simp only [atoiAll, e, true_or, if_true, hu]
    rfl
  · have e : (45 : UInt8).toNat = 45 := rfl
    simp only [atoiAll, e, or_true, if_true, hu]
    rfl

theorem sat_signed {l r : List UInt8} {neg : Bool} (h : Signed l r neg) : atoiSat l = if neg = true then -9223372036854775808 else 9223372036854775807 := by
  unfold atoiSat
  rcases h with ⟨rfl, rfl, h⟩ | ⟨rfl, rfl⟩ | ⟨rfl, rfl⟩
  · rcases h with rfl | ⟨c, q, rfl, h1, h2⟩
    · rfl
    · simp [h2]
  · rfl
  · rfl

theorem mag_range (ds t : List UInt8) (hd : ∀ c ∈ ds, isDig c) (hv : 18446744073709551616 ≤ dval 0 ds) : parseMag (ds ++ t) = .range := by
  unfold parseMag
  have : ds ≠ [] := by rintro rfl; rw [dval_nil] at hv; omega
  rw [if_neg (by simp [this]), parse_range ds t 0 (by omega) hd hv]

theorem mag_ok (ds : List UInt8) (hd : ∀ c ∈ ds, isDig c) (hn : ds ≠ []) (hv : dval 0 ds < 18446744073709551616) : parseMag ds = .ok (dval 0 ds) := by
  unfold parseMag
  rw [if_neg hn, parse_ok ds 0 hd hv]

theorem mag_bad (ds t : List UInt8) (x : UInt8) (hd : ∀ c ∈ ds, isDig c) (hx : ¬ isDig x) (hv : dval 0 ds < 18446744073709551616) : parseMag (ds ++ x :: t) = parseMag [] := by
  have h := parse_bad ds t x hx 0 hd hv
  unfold parseMag at h ⊢
  rw [if_neg (by simp), h]
end Go.Proofs.Qxb6614734aDoor.D
