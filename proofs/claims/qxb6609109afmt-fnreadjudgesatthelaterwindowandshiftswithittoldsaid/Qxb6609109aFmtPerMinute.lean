import Derived.Test.Qxb6609109aFmtRead
import Derived.OpenShut
set_option linter.unusedVariables false
namespace Go.Proofs.Qxb6609109aFmt
open Go.RowKit Go.Extern.Stop Go.Stop Go.Extern

set_option maxHeartbeats 400000 in
theorem floor_core (x d T R q r : Int) (w : World) (p0 : 1 ≤ d) (p1 : d ≤ 9223372036854775807) (n1 : -9223372036854775808 ≤ x) (n2 : x ≤ 9223372036854775807)
    (hT : x.tdiv d = T) (hR : x.tmod d = R) (nx : x < 0) (t0 : -9223372036854775808 ≤ T) (t1 : T ≤ 0) (r0 : -d < R) (r1 : R ≤ 0)
    (h : (R < 0 ∧ -9223372036854775808 < T ∧ q = T - 1 ∧ r = R + d) ∨ (¬ R < 0 ∧ q = T ∧ r = R)) :
    Calls Tryf.prog 7 #[.int .i64 x, .int .i64 d] w fun e w' => e = .returned (.tuple #[.int .i64 q, .int .i64 r]) ∧ w' = w := by
  rcases h with ⟨h, h', rfl, rfl⟩ | ⟨h, rfl, rfl⟩
  · go_enter Tryf.func7, Tryf.ntmps7
    go_wp2
    go_ret2
    exact ⟨rfl, rfl⟩
  · go_enter Tryf.func7, Tryf.ntmps7
    go_wp2
    go_ret2
    exact ⟨rfl, rfl⟩

set_option maxHeartbeats 400000 in
theorem floor_pos (x d q r : Int) (w : World) (p0 : 1 ≤ d) (p1 : d ≤ 9223372036854775807) (n0 : 0 ≤ x) (n2 : x ≤ 9223372036854775807) (hq : x / d = q) (hr : x % d = r) (q0 : 0 ≤ q) (q1 : q ≤ x) (r0 : 0 ≤ r) (r1 : r < d) :
    Calls Tryf.prog 7 #[.int .i64 x, .int .i64 d] w fun e w' => e = .returned (.tuple #[.int .i64 q, .int .i64 r]) ∧ w' = w := by
  go_enter Tryf.func7, Tryf.ntmps7
  go_wp2
  go_ret2
  subst hq hr
  exact ⟨rfl, rfl⟩

theorem floor_any (x d : Int) (w : World) (p0 : 1 ≤ d) (p1 : d ≤ 9223372036854775807) (n1 : -9223372036854775808 ≤ x) (n2 : x ≤ 9223372036854775807) :
    Calls Tryf.prog 7 #[.int .i64 x, .int .i64 d] w fun e w' => e = .returned (.tuple #[.int .i64 (x / d), .int .i64 (x % d)]) ∧ w' = w := by
  rcases Int.lt_or_le x 0 with n0 | n0
  · have hr := ediv_range x d p0 n1 (by omega)
    have ht : x.tdiv d ≤ 0 := by
      have := Int.tdiv_nonneg (show 0 ≤ -x by omega) (show 0 ≤ d by omega)
      rw [Int.neg_tdiv] at this; omega
    rcases neg_div x d p0 n0 with ⟨a, b, c, e⟩ | ⟨a, c, e⟩
    · exact floor_core x d _ _ _ _ w p0 p1 n1 n2 rfl rfl n0 (by omega) ht b (by omega) (.inl ⟨a, by omega, c, e⟩)
    · exact floor_core x d _ _ _ _ w p0 p1 n1 n2 rfl rfl n0 (by omega) ht (by omega) (by omega) (.inr ⟨by omega, c, by rw [a]; exact e⟩)
  · exact floor_pos x d _ _ w p0 p1 n0 n2 rfl rfl (Int.ediv_nonneg n0 (by omega)) (Int.ediv_le_self d n0) (Int.emod_nonneg x (by omega)) (Int.emod_lt_of_pos x (by omega))

/-- the halves of x + 2^127 -/
def shi (x : Int) : Int := if x < 0 then 9223372036854775807 else 9223372036854775808
def slo (x : Int) : Int := if x < 0 then x + 18446744073709551616 else x

set_option maxHeartbeats 400000 in
theorem signed_neg (x lo : Int) (w : World) (n0 : x < 0) (n1 : -9223372036854775808 ≤ x) (hlo : IntKind.u64.wrap x = lo) :
    Calls Tryf.prog 8 #[.int .i64 x] w fun e w' => e = .returned (.tuple #[.int .u64 9223372036854775807, .int .u64 lo]) ∧ w' = w := by
  go_enter Tryf.func8, Tryf.ntmps8
  go_wp2
  go_ret2
  exact ⟨rfl, rfl⟩
set_option maxHeartbeats 400000 in
theorem signed_pos (x : Int) (w : World) (n0 : ¬ x < 0) (n1 : x ≤ 9223372036854775807) :
    Calls Tryf.prog 8 #[.int .i64 x] w fun e w' => e = .returned (.tuple #[.int .u64 9223372036854775808, .int .u64 x]) ∧ w' = w := by
  go_enter Tryf.func8, Tryf.ntmps8
  go_wp2
  go_ret2
  exact ⟨rfl, rfl⟩
theorem signed_any (x : Int) (w : World) (n1 : -9223372036854775808 ≤ x) (n2 : x ≤ 9223372036854775807) :
    Calls Tryf.prog 8 #[.int .i64 x] w fun e w' => e = .returned (.tuple #[.int .u64 (shi x), .int .u64 (slo x)]) ∧ w' = w := by
  unfold shi slo
  by_cases n0 : x < 0
  · rw [if_pos n0, if_pos n0]
    exact signed_neg x _ w n0 n1 (by rw [IntKind.wrap_u64]; omega)
  · rw [if_neg n0, if_neg n0]
    exact signed_pos x w n0 n2
theorem shi_u (x : Int) : U (shi x) := by unfold U shi; split <;> omega
theorem slo_u (x : Int) (n1 : -9223372036854775808 ≤ x) (n2 : x ≤ 9223372036854775807) : U (slo x) := by unfold U slo; split <;> omega
theorem signed_fits (x : Int) (n1 : -9223372036854775808 ≤ x) (n2 : x ≤ 9223372036854775807) : Fits (shi x) (slo x) := by
  unfold Fits shi slo; split <;> omega
theorem signed_back (x : Int) (n1 : -9223372036854775808 ≤ x) (n2 : x ≤ 9223372036854775807) : sgn (slo x) = x := by
  unfold sgn slo; split <;> split <;> omega

set_option maxHeartbeats 400000 in
theorem per_any (n d : Int) (w : World) :
    Calls Tryf.prog 17 #[.int .i64 n, .int .i64 d] w fun e w' => e = .returned (.agg #[.int .i64 n, .int .i64 d]) ∧ Kept w w' := by
  go_enter Tryf.func17, Tryf.ntmps17
  go_wp2
  refine bodyPost_ret (v := .agg #[.int .i64 n, .int .i64 d]) ?_ rfl ⟨rfl, (Kept.refl w).alloc _ _⟩
  simp [results, Tryf.results17, go_sem]
set_option maxHeartbeats 400000 in
theorem perMinute_any (n : Int) (w : World) :
    Calls Tryf.prog 6 #[.int .i64 n] w fun e w' => e = .returned (.agg #[.int .i64 n, .int .i64 60000000000]) ∧ Kept w w' := by
  go_enter Tryf.func6, Tryf.ntmps6
  go_wp2_with (go_at_call 17; refine (per_any _ _ _).mono ?_; rintro e w1 ⟨rfl, hk⟩; have hc := hk.cells; have hf := hk.frozen)
  refine bodyPost_ret (v := .agg #[.int .i64 n, .int .i64 60000000000]) ?_ rfl ⟨rfl, ((((Kept.refl w).alloc _ _).trans hk).setCell (Nat.le_refl _) _).setCell (Nat.le_refl _) _⟩
  simp [results, Tryf.results6, go_sem, hc]

set_option maxHeartbeats 400000 in
theorem law_small (n curr now : Int) (w : World) (h : n < 1) :
    Calls Tryf.prog 3 #[.int .i64 n, .int .u64 curr, .int .i64 now] w fun e w' => e = .returned (.bool true) ∧ Kept w w' := by
  go_enter Tryf.func3, Tryf.ntmps3
  go_wp2
  go_ret
  exact ⟨rfl, Kept.refl _⟩

set_option maxHeartbeats 400000 in
theorem law_main (F : Interp) (n curr now A I h0 l0 : Int) (w : World) (hF : Hid (F.answers w.tape)) (c0 : 1 ≤ n) (c1 : n ≤ 9223372036854775807) (d0 : 0 ≤ curr) (d1 : curr < 18446744073709551616) (n1 : -9223372036854775808 ≤ now) (n2 : now ≤ 9223372036854775807)
   (hA : Hid (now / 60000000000 = A)) (hI : Hid (now % 60000000000 = I)) (a1 : -9223372036854775808 ≤ A) (a2 : A ≤ 9223372036854775807) (i1 : 0 ≤ I) (i2 : I < 60000000000) (hh : Hid (shi A = h0)) (hl : Hid (slo A = l0)) :
    Calls Tryf.prog 3 #[.int .i64 n, .int .u64 curr, .int .i64 now] w fun e w' => e = .returned (.bool true) ∧ Kept w w' := by
  have HFl : Hid (∀ w, Calls Tryf.prog 7 #[.int .i64 now, .int .i64 60000000000] w fun e w' => e = .returned (.tuple #[.int .i64 A, .int .i64 I]) ∧ w' = w) := by
    intro w
    have := floor_any now 60000000000 w (by omega) (by omega) n1 n2
    rw [hA.out, hI.out] at this
    exact this
  have HSg : Hid (∀ w, Calls Tryf.prog 8 #[.int .i64 A] w fun e w' => e = .returned (.tuple #[.int .u64 h0, .int .u64 l0]) ∧ w' = w) := by
    intro w
    have := signed_any A w a1 a2
    rw [hh.out, hl.out] at this
    exact this
  have hu0 : U h0 := by rw [← hh.out]; exact shi_u A
  have hu1 : U l0 := by rw [← hl.out]; exact slo_u A a1 a2
  have hfit : Fits h0 l0 := by rw [← hh.out, ← hl.out]; exact signed_fits A a1 a2
  have hsg : Hid (sgn l0 = A) := by show sgn l0 = A; rw [← hl.out]; exact signed_back A a1 a2
  have Hu0 : Hid (U h0) := hu0
  have Hu1 : Hid (U l0) := hu1
  have Hf : Hid (Fits h0 l0) := hfit
  clear hu0 hu1 hfit
  by_cases hcmp : n < curr
  · go_enter Tryf.func3, Tryf.ntmps3
    go_wp2_with (first | (go_at_call 7; refine (HFl.out _).mono ?_; rintro e w' ⟨rfl, rfl⟩) | (go_at_call 8; refine (HSg.out _).mono ?_; rintro e w' ⟨rfl, rfl⟩) | (go_at_call 6; refine (perMinute_any _ _).mono ?_; rintro e w1 ⟨rfl, hk⟩))
    have kw : Hid (Kept w ((w1.alloc (.cells #[.int .i64 n, .int .i64 60000000000] 25)).alloc (.cells #[.int .u64 h0, .int .u64 l0, .int .u64 0, .int .u64 curr, .int .u64 0, .int .u64 0] 32))) := (hk.alloc _ _).alloc _ _
    refine (zzread_bad F w1.heap.size (w1.heap.size + 1) 3 n 60000000000 now h0 l0 0 curr 0 0 _ ?_ ?_ ?_ Hu0.out Hu1.out d0 (by omega) c0 c1).mono ?_
    · rw [kw.out.below.tape]; exact hF.out
    · exact ⟨by simp; omega, by simp, by simp [go_sem], by simp [go_sem], by simp [go_sem], by simp [go_sem], by simp [go_sem], by simp [go_sem], by simp [go_sem], by simp [go_sem]⟩
    · rintro ⟨_, _, _, g, _⟩; omega
    rintro e w2 ⟨⟨x, rfl⟩, hk2⟩
    go_wp2
    go_ret
    exact ⟨rfl, kw.out.trans hk2⟩
  · go_enter Tryf.func3, Tryf.ntmps3
    go_wp2_with (first | (go_at_call 7; refine (HFl.out _).mono ?_; rintro e w' ⟨rfl, rfl⟩) | (go_at_call 8; refine (HSg.out _).mono ?_; rintro e w' ⟨rfl, rfl⟩) | (go_at_call 6; refine (perMinute_any _ _).mono ?_; rintro e w1 ⟨rfl, hk⟩))
    have kw : Hid (Kept w ((w1.alloc (.cells #[.int .i64 n, .int .i64 60000000000] 25)).alloc (.cells #[.int .u64 h0, .int .u64 l0, .int .u64 0, .int .u64 curr, .int .u64 0, .int .u64 0] 32))) := (hk.alloc _ _).alloc _ _
    have hz := zzread_ok w1.heap.size (w1.heap.size + 1) 3 n 60000000000 now h0 l0 0 curr 0 0 ((w1.alloc (.cells #[.int .i64 n, .int .i64 60000000000] 25)).alloc (.cells #[.int .u64 h0, .int .u64 l0, .int .u64 0, .int .u64 curr, .int .u64 0, .int .u64 0] 32)) ⟨by simp; omega, by simp, by simp [go_sem], by simp [go_sem], by simp [go_sem], by simp [go_sem], by simp [go_sem], by simp [go_sem], by simp [go_sem], by simp [go_sem]⟩
      ⟨Hf.out, rfl, rfl, by omega, by omega⟩ Hu0.out Hu1.out d0 (by omega) c0 c1 (by omega) (by omega) n1 (by omega) curr 0 false (.inl ⟨by rw [hA.out, hsg.out], rfl, rfl, rfl⟩)
    rw [hA.out, hI.out, hsg.out] at hz
    refine hz.mono ?_
    rintro e w2 ⟨bm, bw, rfl, hk2, _, hm⟩
    go_wp2_with (go_at_call 10; refine (meterPlace_any bm _ now _ _ curr 0 false _ hm).mono ?_; rintro e w3 ⟨rfl, hk3⟩)
    go_ret
    exact ⟨rfl, (kw.out.trans hk2).trans hk3⟩

theorem law_any (F : Interp) (n curr now : Int) (w : World) (hF : F.answers w.tape) (w0 : (Lit.int .i64 n).wf = true) (w1 : (Lit.int .u64 curr).wf = true) (w2 : (Lit.int .i64 now).wf = true) :
    Calls Tryf.prog 3 #[.int .i64 n, .int .u64 curr, .int .i64 now] w fun e w' => e = .returned (.bool true) ∧ Kept w w' := by
  have b0 := bounds_i64 w0
  have b1 := bounds_u64 w1
  have b2 := bounds_i64 w2
  by_cases h : n < 1
  · exact law_small n curr now w h
  · have hr := ediv_range now 60000000000 (by omega) (by omega) (by omega)
    exact law_main F n curr now _ _ _ _ w hF (by omega) (by omega) (by omega) (by omega) (by omega) (by omega) rfl rfl hr.1 (by omega) (Int.emod_nonneg now (by omega)) (Int.emod_lt_of_pos now (by omega)) rfl rfl
end Go.Proofs.Qxb6609109aFmt
