import Derived.Test.Qxb6609109aFmtCounts
import Derived.Test.Qxb6609109aFmtPerMinute
set_option linter.unusedVariables false
namespace Go.Proofs.Qxb6609109aFmt
open Go.RowKit Go.Extern.Stop Go.Stop Go.Extern

/-- What grantedIn answers. -/
def GI (k w c p r : Int) : Prop :=
  ((k == w) = true ∧ r = c) ∨ ((k == w) = false ∧ (w != -9223372036854775808) = true ∧ -9223372036854775807 ≤ w ∧ (k == w - 1) = true ∧ r = p) ∨
  ((k == w) = false ∧ (w != -9223372036854775808) = false ∧ r = 0) ∨ ((k == w) = false ∧ (w != -9223372036854775808) = true ∧ -9223372036854775807 ≤ w ∧ (k == w - 1) = false ∧ r = 0)

set_option maxHeartbeats 400000 in
theorem granted_any (k w c p r : Int) (W : World) (w1 : -9223372036854775808 ≤ w) (w2 : w ≤ 9223372036854775807) (h : GI k w c p r) :
    Calls Tryf.prog 20 #[.int .i64 k, .int .i64 w, .int .i64 c, .int .i64 p] W fun e w' => e = .returned (.int .i64 r) ∧ w' = W := by
  rcases h with ⟨h, rfl⟩ | ⟨h, h1, h2, h3, rfl⟩ | ⟨h, h1, rfl⟩ | ⟨h, h1, h2, h3, rfl⟩
  all_goals
    go_enter Tryf.func20, Tryf.ntmps20
    go_wp2
    go_ret
    exact ⟨rfl, rfl⟩

theorem gi_same (w c p : Int) : GI w w c p c := .inl ⟨beq_self_eq_true w, rfl⟩
theorem gi_prev (w c p : Int) (h : -9223372036854775807 ≤ w) : GI (w - 1) w c p p :=
  .inr (.inl ⟨beq_eq_false_iff_ne.2 (by omega), bne_iff_ne.2 (by omega), h, beq_self_eq_true _, rfl⟩)
theorem gi_none (k w c p : Int) (w1 : -9223372036854775808 ≤ w) (h : w < k) : GI k w c p 0 := by
  by_cases e : w = -9223372036854775808
  · exact .inr (.inr (.inl ⟨beq_eq_false_iff_ne.2 (by omega), bne_eq_false_iff_eq.2 e, rfl⟩))
  · exact .inr (.inr (.inr ⟨beq_eq_false_iff_ne.2 (by omega), bne_iff_ne.2 e, by omega, beq_eq_false_iff_ne.2 (by omega), rfl⟩))


set_option maxHeartbeats 400000 in
theorem expect_core (P w c p now A I a r1 r2 : Int) (W : World) (p0 : 1 ≤ P) (p1 : P ≤ 9223372036854775807) (i1 : 0 ≤ I) (i2 : I < P)
    (HFl : Hid (∀ W, Calls Tryf.prog 7 #[.int .i64 now, .int .i64 P] W fun e w' => e = .returned (.tuple #[.int .i64 A, .int .i64 I]) ∧ w' = W))
    (lt : Bool) (hlt : decide (A < w) = lt) (L : Int) (hL : Hid ((lt = true ∧ a = w ∧ L = P) ∨ (lt = false ∧ a = A ∧ L = P - I))) (mn : Bool) (hmn : (a != -9223372036854775808) = mn)
    (a1 : -9223372036854775808 ≤ a) (a2 : a ≤ 9223372036854775807)
    (H1 : Hid (∀ W, Calls Tryf.prog 20 #[.int .i64 a, .int .i64 w, .int .i64 c, .int .i64 p] W fun e w' => e = .returned (.int .i64 r1) ∧ w' = W))
    (H2 : Hid ((mn = true ∧ -9223372036854775807 ≤ a ∧ ∀ W, Calls Tryf.prog 20 #[.int .i64 (a - 1), .int .i64 w, .int .i64 c, .int .i64 p] W fun e w' => e = .returned (.int .i64 r2) ∧ w' = W) ∨ (mn = false ∧ r2 = p))) :
    Calls Tryf.prog 15 #[.int .i64 P, .int .i64 w, .int .i64 c, .int .i64 p, .int .i64 now] W fun e w' => e = .returned (.tuple #[.int .i64 a, .int .i64 L, .int .i64 r1, .int .i64 r2, .bool lt]) ∧ w' = W := by
  rcases hL.out with ⟨rfl, rfl, rfl⟩ | ⟨rfl, rfl, rfl⟩
  · rcases H2.out with ⟨rfl, m1, h2⟩ | ⟨rfl, rfl⟩
    · have G2 : Hid _ := h2
      clear h2 H2 hL
      go_enter Tryf.func15, Tryf.ntmps15
      go_wp2_with fail
      refine (HFl.out _).mono ?_
      rintro e w' ⟨rfl, rfl⟩
      go_wp2_with fail
      refine (H1.out _).mono ?_
      rintro e w' ⟨rfl, rfl⟩
      go_wp2_with fail
      refine (G2.out _).mono ?_
      rintro e w' ⟨rfl, rfl⟩
      go_wp2
      refine bodyPost_ret (v := .tuple #[.int .i64 a, .int .i64 L, .int .i64 r1, .int .i64 r2, .bool true]) ?_ rfl ⟨rfl, rfl⟩
      simp [results, Tryf.results15, go_sem]
    · clear H2 hL
      go_enter Tryf.func15, Tryf.ntmps15
      go_wp2_with fail
      refine (HFl.out _).mono ?_
      rintro e w' ⟨rfl, rfl⟩
      go_wp2_with fail
      refine (H1.out _).mono ?_
      rintro e w' ⟨rfl, rfl⟩
      go_wp2
      refine bodyPost_ret (v := .tuple #[.int .i64 a, .int .i64 L, .int .i64 r1, .int .i64 r2, .bool true]) ?_ rfl ⟨rfl, rfl⟩
      simp [results, Tryf.results15, go_sem]
  · rcases H2.out with ⟨rfl, m1, h2⟩ | ⟨rfl, rfl⟩
    · have G2 : Hid _ := h2
      clear h2 H2 hL
      go_enter Tryf.func15, Tryf.ntmps15
      go_wp2_with fail
      refine (HFl.out _).mono ?_
      rintro e w' ⟨rfl, rfl⟩
      go_wp2_with fail
      refine (H1.out _).mono ?_
      rintro e w' ⟨rfl, rfl⟩
      go_wp2_with fail
      refine (G2.out _).mono ?_
      rintro e w' ⟨rfl, rfl⟩
      go_wp2
      refine bodyPost_ret (v := .tuple #[.int .i64 a, .int .i64 (P - I), .int .i64 r1, .int .i64 r2, .bool false]) ?_ rfl ⟨rfl, rfl⟩
      simp [results, Tryf.results15, go_sem]
    · clear H2 hL
      go_enter Tryf.func15, Tryf.ntmps15
      go_wp2_with fail
      refine (HFl.out _).mono ?_
      rintro e w' ⟨rfl, rfl⟩
      go_wp2_with fail
      refine (H1.out _).mono ?_
      rintro e w' ⟨rfl, rfl⟩
      go_wp2
      refine bodyPost_ret (v := .tuple #[.int .i64 a, .int .i64 (P - I), .int .i64 r1, .int .i64 r2, .bool false]) ?_ rfl ⟨rfl, rfl⟩
      simp [results, Tryf.results15, go_sem]

theorem expect_any (P w c p now r1 r2 : Int) (r3 : Bool) (W : World) (p0 : 1 ≤ P) (p1 : P ≤ 9223372036854775807) (n1 : -9223372036854775808 ≤ now) (n2 : now ≤ 9223372036854775807)
    (w1 : -9223372036854775808 ≤ w) (w2 : w ≤ 9223372036854775807) (h : WI w c p (now / P) r1 r2 r3) :
    Calls Tryf.prog 15 #[.int .i64 P, .int .i64 w, .int .i64 c, .int .i64 p, .int .i64 now] W fun e w' => e = .returned (.tuple #[.int .i64 (if r3 = true then w else now / P), .int .i64 (if r3 = true then P else P - now % P), .int .i64 r1, .int .i64 r2, .bool r3]) ∧ w' = W := by
  have hr := ediv_range now P p0 n1 (by omega)
  have hm0 := Int.emod_nonneg now (show P ≠ 0 by omega)
  have hm1 := Int.emod_lt_of_pos now (show 0 < P by omega)
  have hfl : Hid (∀ W, Calls Tryf.prog 7 #[.int .i64 now, .int .i64 P] W fun e w' => e = .returned (.tuple #[.int .i64 (now / P), .int .i64 (now % P)]) ∧ w' = W) := fun W => floor_any now P W p0 p1 n1 n2
  generalize now / P = A at *
  generalize now % P = I at *
  have two : ∀ a r2, -9223372036854775808 ≤ a → (a = -9223372036854775808 → r2 = p) → (-9223372036854775807 ≤ a → GI (a - 1) w c p r2) →
      Hid (((a != -9223372036854775808) = true ∧ -9223372036854775807 ≤ a ∧ ∀ W, Calls Tryf.prog 20 #[.int .i64 (a - 1), .int .i64 w, .int .i64 c, .int .i64 p] W fun e w' => e = .returned (.int .i64 r2) ∧ w' = W) ∨ ((a != -9223372036854775808) = false ∧ r2 = p)) := by
    intro a r2 h1 h2 h3
    by_cases e : a = -9223372036854775808
    · exact Or.inr ⟨bne_eq_false_iff_eq.2 e, h2 e⟩
    · exact Or.inl ⟨bne_iff_ne.2 e, by omega, fun W => granted_any _ w c p r2 W w1 w2 (h3 (by omega))⟩
  have one : ∀ a r1, GI a w c p r1 → Hid (∀ W, Calls Tryf.prog 20 #[.int .i64 a, .int .i64 w, .int .i64 c, .int .i64 p] W fun e w' => e = .returned (.int .i64 r1) ∧ w' = W) :=
    fun a r1 h W => granted_any a w c p r1 W w1 w2 h
  rcases h with ⟨h, rfl, rfl, rfl⟩ | ⟨h, rfl, rfl, rfl⟩ | ⟨h, rfl, rfl, rfl⟩ | ⟨h, rfl, rfl, rfl⟩
  · subst h
    exact expect_core P A r1 r2 now A I A r1 r2 W p0 p1 hm0 hm1 hfl false (decide_eq_false (by omega)) _ (Or.inr ⟨rfl, rfl, rfl⟩) _ rfl w1 w2 (one _ _ (gi_same _ _ _)) (two _ _ w1 (fun _ => rfl) (fun h => gi_prev _ _ _ h))
  · exact expect_core P w c p now A I A 0 0 W p0 p1 hm0 hm1 hfl false (decide_eq_false (by omega)) _ (Or.inr ⟨rfl, rfl, rfl⟩) _ rfl hr.1 (by omega) (one _ _ (gi_none _ _ _ _ w1 (by omega))) (two _ _ hr.1 (fun e => by omega) (fun _ => gi_none _ _ _ _ w1 (by omega)))
  · subst h
    refine expect_core P w r2 p now (w + 1) I (w + 1) 0 r2 W p0 p1 hm0 hm1 hfl false (decide_eq_false (by omega)) _ (Or.inr ⟨rfl, rfl, rfl⟩) _ rfl hr.1 (by omega) (one _ _ (gi_none _ _ _ _ w1 (by omega))) (two _ _ hr.1 (fun e => by omega) (fun _ => ?_))
    rw [show w + 1 - 1 = w by omega]
    exact gi_same _ _ _
  · exact expect_core P w r1 r2 now A I w r1 r2 W p0 p1 hm0 hm1 hfl true (decide_eq_true h) _ (Or.inl ⟨rfl, rfl, rfl⟩) _ rfl w1 w2 (one _ _ (gi_same _ _ _)) (two _ _ w1 (fun e => by omega) (fun h => gi_prev _ _ _ h))
end Go.Proofs.Qxb6609109aFmt
