/-
  PLAIN LAWS on decimal digits: what strconv.Atoi and strconv.Itoa compute (the library's Lib.atoiAll, Lib.itoa), read back; canonical digits; their order. No Go in sight.
-/
import Derived.Lib.AtoiAll
import Derived.Lib.ItoaNum
namespace Go.Proofs.Qxb6614734aDoor.D
open Go.Lib

def isDig (c : UInt8) : Prop := 48 ≤ c.toNat ∧ c.toNat ≤ 57
def dval (acc : Nat) : List UInt8 → Nat
  | [] => acc
  | c :: r => dval (acc * 10 + (c.toNat - 48)) r

theorem dval_ge (l : List UInt8) : ∀ acc, acc ≤ dval acc l := by
  induction l with
  | nil => intro acc; exact Nat.le_refl _
  | cons c r ih =>
    intro acc
    have h := ih (acc * 10 + (c.toNat - 48))
    show acc ≤ dval (acc * 10 + (c.toNat - 48)) r
    generalize dval (acc * 10 + (c.toNat - 48)) r = v at *
    omega

theorem dval_append (a b : List UInt8) : ∀ acc, dval acc (a ++ b) = dval (dval acc a) b := by
  induction a with
  | nil => intro acc; rfl
  | cons c r ih => intro acc; exact ih (acc * 10 + (c.toNat - 48))

/-- digits alone, the value a uint64 -/
theorem parse_ok (l : List UInt8) : ∀ acc, (∀ c ∈ l, isDig c) → dval acc l < 18446744073709551616 → parseUint10 acc l = .ok (dval acc l) := by
  induction l with
  | nil => intro acc _ _; rfl
  | cons c r ih =>
    intro acc hd hv
    have hc := hd c (List.mem_cons_self ..)
    unfold isDig at hc
    have hv' : dval (acc * 10 + (c.toNat - 48)) r < 18446744073709551616 := hv
    have hg := dval_ge r (acc * 10 + (c.toNat - 48))
    have hi := ih (acc * 10 + (c.toNat - 48)) (fun x hx => hd x (List.mem_cons_of_mem _ hx)) hv'
    show parseUint10 acc (c :: r) = .ok (dval (acc * 10 + (c.toNat - 48)) r)
    rw [← hi]
    generalize dval (acc * 10 + (c.toNat - 48)) r = v at *
    simp only [parseUint10]
    rw [if_pos hc, if_neg (by omega), if_neg (by omega)]

/-- digits whose value is no uint64, whatever follows -/
theorem parse_range (l t : List UInt8) : ∀ acc, acc < 18446744073709551616 → (∀ c ∈ l, isDig c) → 18446744073709551616 ≤ dval acc l → parseUint10 acc (l ++ t) = .range := by
  induction l with
  | nil => intro acc ha _ hv; exact absurd (show 18446744073709551616 ≤ acc from hv) (Nat.not_le.2 ha)
  | cons c r ih =>
    intro acc ha hd hv
    have hc := hd c (List.mem_cons_self ..)
    unfold isDig at hc
    have hi : acc * 10 + (c.toNat - 48) < 18446744073709551616 → parseUint10 (acc * 10 + (c.toNat - 48)) (r ++ t) = .range := fun h => ih (acc * 10 + (c.toNat - 48)) h (fun x hx => hd x (List.mem_cons_of_mem _ hx)) hv
    clear hv ih
    simp only [List.cons_append, parseUint10]
    rw [if_pos hc]
    by_cases h1 : 1844674407370955162 ≤ acc
    · rw [if_pos h1]
    · rw [if_neg h1]
      by_cases h2 : 18446744073709551616 ≤ acc * 10 + (c.toNat - 48)
      · rw [if_pos h2]
      · rw [if_neg h2]
        exact hi (Nat.lt_of_not_le h2)

/-- digits that fit a uint64, then a byte that is no digit: it ends as the empty text does -/
theorem parse_bad (l t : List UInt8) (x : UInt8) (hx : ¬ isDig x) : ∀ acc, (∀ c ∈ l, isDig c) → dval acc l < 18446744073709551616 → parseUint10 acc (l ++ x :: t) = parseMag [] := by
  induction l with
  | nil =>
    intro acc _ _
    unfold isDig at hx
    simp only [List.nil_append, parseUint10]
    rw [if_neg hx]
    rfl
  | cons c r ih =>
    intro acc hd hv
    have hc := hd c (List.mem_cons_self ..)
    unfold isDig at hc
    have hv' : dval (acc * 10 + (c.toNat - 48)) r < 18446744073709551616 := hv
    have hg := dval_ge r (acc * 10 + (c.toNat - 48))
    have hi := ih (acc * 10 + (c.toNat - 48)) (fun x hx => hd x (List.mem_cons_of_mem _ hx)) hv'
    clear hv
    generalize dval (acc * 10 + (c.toNat - 48)) r = v at *
    simp only [List.cons_append, parseUint10]
    rw [if_pos hc, if_neg (by omega), if_neg (by omega)]
    exact hi

theorem ofNat_toNat (n : Nat) (h : n < 10) : (UInt8.ofNat (48 + n)).toNat = 48 + n := by
  rw [UInt8.toNat_ofNat']; omega

theorem dec_dig (u : Nat) : ∀ c ∈ decDigits u, isDig c := by
  induction u using Nat.strongRecOn with
  | ind u ih =>
    intro c hc
    rw [decDigits] at hc
    split at hc
    · rename_i h
      simp only [List.mem_singleton] at hc
      subst hc
      have := ofNat_toNat u h
      exact ⟨by omega, by omega⟩
    · rename_i h
      rw [List.mem_append] at hc
      rcases hc with hc | hc
      · exact ih (u / 10) (by omega) c hc
      · simp only [List.mem_singleton] at hc
        subst hc
        have := ofNat_toNat (u % 10) (by omega)
        exact ⟨by omega, by omega⟩

theorem dec_val (u : Nat) : dval 0 (decDigits u) = u := by
  induction u using Nat.strongRecOn with
  | ind u ih =>
    rw [decDigits]
    split
    · rename_i h
      have h' := ofNat_toNat u h
      show 0 * 10 + ((UInt8.ofNat (48 + u)).toNat - 48) = u
      rw [h']; omega
    · rename_i h
      rw [dval_append, ih (u / 10) (by omega)]
      have h' := ofNat_toNat (u % 10) (by omega)
      show u / 10 * 10 + ((UInt8.ofNat (48 + u % 10)).toNat - 48) = u
      rw [h']; omega

theorem dec_ne (u : Nat) : decDigits u ≠ [] := by
  rw [decDigits]; split <;> simp

/-- what Itoa writes, Atoi reads back -/
theorem atoi_itoa (n : Int) (h0 : -9223372036854775808 ≤ n) (h1 : n ≤ 9223372036854775807) : atoiAll (itoa n) = .ok n := by
  unfold itoa
  split
  · rename_i hn
    have hp : parseMag (decDigits n.natAbs) = .ok n.natAbs := by
      unfold parseMag
      rw [if_neg (dec_ne _), parse_ok _ 0 (dec_dig _) (by rw [dec_val]; omega), dec_val]
    simp only [atoiAll]
    have e : (45 : UInt8).toNat = 45 := rfl
    simp only [e, or_true, if_true, hp, not_true_eq_false, false_and, if_false, true_and]
    rw [if_neg (by omega)]
    rw [show -(n.natAbs : Int) = n by omega]
  · rename_i hn
    have hp : parseMag (decDigits n.toNat) = .ok n.toNat := by
      unfold parseMag
      rw [if_neg (dec_ne _), parse_ok _ 0 (dec_dig _) (by rw [dec_val]; omega), dec_val]
    cases hl : decDigits n.toNat with
    | nil => exact absurd hl (dec_ne _)
    | cons c r =>
      have hc : isDig c := dec_dig n.toNat c (by rw [hl]; exact List.mem_cons_self ..)
      unfold isDig at hc
      rw [hl] at hp
      simp only [atoiAll]
      rw [if_neg (by omega), hp]
      have e1 : ¬ c.toNat = 45 := by omega
      simp only [e1, not_false_eq_true, true_and, false_and, if_false]
      rw [if_neg (by omega)]
      rw [Int.toNat_of_nonneg (by omega)]
end Go.Proofs.Qxb6614734aDoor.D
