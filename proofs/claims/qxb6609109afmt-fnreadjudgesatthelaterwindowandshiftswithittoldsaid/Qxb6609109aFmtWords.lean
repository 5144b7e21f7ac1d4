import Derived.Test.Qxb6609109aFmtLoad
import Derived.Laws.Bits64
set_option linter.unusedVariables false
namespace Go.Proofs.Qxb6609109aFmt
open Go.RowKit

set_option maxHeartbeats 400000 in
theorem newWindows_any (C P : Int) (w : World) (p0 : 1 ≤ P) (p1 : P ≤ 9223372036854775807) :
    Calls Tryf.prog 23 #[.agg #[.int .i64 C, .int .i64 P], .int .i64 0] w fun e w' => (∃ m s1 s2, M.IsDiv P m s1 s2 ∧ e = .returned (.agg #[.int .i64 C, .int .i64 P, .int .i64 0, .int .u64 m, .int .u8 s1, .int .u8 s2])) ∧ Kept w w' := by
  go_enter Tryf.func23, Tryf.ntmps23
  go_wp2
  go_region_held3 (fun w' => w'.cell? ⟨w.heap.size, 0, none⟩ = some (.int .i64 C) ∧ w'.cell? ⟨w.heap.size, 1, none⟩ = some (.int .i64 P)) (simp [go_sem, *])
    ((go_at_call 27; refine (newDivisor_any P _ p0 p1).mono ?_; rintro e w1 ⟨⟨m, s1, s2, hdv, rfl⟩, hk⟩; have hc := hk.cells; have hf := hk.frozen))
  all_goals go_wp2
  refine bodyPost_ret (v := .agg #[.int .i64 C, .int .i64 P, .int .i64 0, .int .u64 m, .int .u8 s1, .int .u8 s2]) ?_ rfl ⟨⟨m, s1, s2, hdv, rfl⟩, ?_⟩
  · simp [results, Tryf.results23, go_sem, hc]
  · have k : w.heap.size ≤ w.heap.size + 1 := Nat.le_succ _
    exact ((((((((((Kept.refl w).alloc _ _).alloc _ _).drew).trans hk).setCell k _).setCell k _).setCell k _).setCell k _).setCell k _).setCell k _

theorem xor63 (a : Int) (h0 : 0 ≤ a) (h1 : a < 18446744073709551616) : bits .xor .u64 a 9223372036854775808 = (a + 9223372036854775808) % 18446744073709551616 := by
  obtain ⟨n, rfl⟩ := Int.eq_ofNat_of_zero_le h0
  have h := bits_xor_u64_nat n 9223372036854775808 (by omega) (by omega)
  have e : n ^^^ 9223372036854775808 = (n + 9223372036854775808) % 18446744073709551616 := by
    have e1 : (9223372036854775808 : Nat) = 2 ^ 63 := rfl
    have e2 : (18446744073709551616 : Nat) = 2 ^ 64 := rfl
    rw [e1, e2]
    apply Nat.eq_of_testBit_eq
    intro i
    rw [Nat.testBit_xor, Nat.testBit_two_pow, Nat.testBit_mod_two_pow, Nat.add_comm]
    by_cases hi : i = 63
    · subst hi
      rw [Nat.testBit_two_pow_add_eq]
      simp
    · by_cases hlt : i < 63
      · rw [Nat.testBit_two_pow_add_gt hlt]
        simp [show i < 64 by omega, show ¬ 63 = i by omega]
      · have : ¬ i < 64 := by omega
        have hn : n.testBit i = false := Nat.testBit_lt_two_pow (Nat.lt_of_lt_of_le (show n < 2 ^ 64 by omega) (Nat.pow_le_pow_right (by decide) (by omega)))
        simp [this, hn, show ¬ 63 = i by omega]
  rw [e] at h
  exact h

theorem signed_hi (a : Int) (h0 : 0 ≤ a) (h1 : a < 18446744073709551616) : IntKind.i64.wrap (bits .xor .u64 a 9223372036854775808) = a - 9223372036854775808 := by
  rw [xor63 a h0 h1, IntKind.wrap_i64]; omega

set_option maxHeartbeats 400000 in
theorem fromSigned_any (h l H : Int) (w : World) (hH : IntKind.i64.wrap (bits .xor .u64 h 9223372036854775808) = H) :
    Calls Tryf.prog 22 #[.agg #[.int .u64 h, .int .u64 l]] w fun e w' => e = .returned (.agg #[.int .i64 H, .int .u64 l]) ∧ Kept w w' := by
  go_enter Tryf.func22, Tryf.ntmps22
  go_wp2
  refine bodyPost_ret (v := .agg #[.int .i64 H, .int .u64 l]) ?_ rfl ⟨rfl, ((Kept.refl w).alloc _ _).alloc _ _⟩
  simp [results, Tryf.results22, go_sem]

/-- What the memory holds for a call of read: the limit in block bl, three words in block bs. -/
structure St (w : World) (bl bs : Nat) (C P h0 l0 h1 l1 h2 l2 : Int) : Prop where
  hl : bl < w.heap.size
  hs : bs < w.heap.size
  e0 : w.cell? ⟨bl, 0, none⟩ = some (.int .i64 C)
  e1 : w.cell? ⟨bl, 1, none⟩ = some (.int .i64 P)
  s0 : w.cell? ⟨bs, 0, none⟩ = some (.int .u64 h0)
  s1 : w.cell? ⟨bs, 1, none⟩ = some (.int .u64 l0)
  s2 : w.cell? ⟨bs, 2, none⟩ = some (.int .u64 h1)
  s3 : w.cell? ⟨bs, 3, none⟩ = some (.int .u64 l1)
  s4 : w.cell? ⟨bs, 4, none⟩ = some (.int .u64 h2)
  s5 : w.cell? ⟨bs, 5, none⟩ = some (.int .u64 l2)

theorem St.kept {w w' : World} {bl bs : Nat} {C P h0 l0 h1 l1 h2 l2 : Int} (h : St w bl bs C P h0 l0 h1 l1 h2 l2) (hk : Kept w w') : St w' bl bs C P h0 l0 h1 l1 h2 l2 := by
  have hc := hk.cells
  exact ⟨Nat.lt_of_lt_of_le h.hl hk.below.size, Nat.lt_of_lt_of_le h.hs hk.below.size, (hc _ _ h.hl).trans h.e0, (hc _ _ h.hl).trans h.e1, (hc _ _ h.hs).trans h.s0, (hc _ _ h.hs).trans h.s1, (hc _ _ h.hs).trans h.s2, (hc _ _ h.hs).trans h.s3, (hc _ _ h.hs).trans h.s4, (hc _ _ h.hs).trans h.s5⟩

end Go.Proofs.Qxb6609109aFmt
