/-
  THE WALKS of decimalSize and of the two laws over it; the table decimalGroupBytes comes in as 'Tab'.
-/
import Derived.Test.Qxb6614863aDoorRows
import Derived.Test.Qxb6614863aDoorKept
import Derived.WalkKit
import Derived.WalkSpells
import Derived.WalkLawsBesides
import Derived.Deep.QuietTactic
import Derived.BigQuiet
set_option linter.unusedVariables false
namespace Go.Proofs.Qxb6614863aDoor
open Go.RowKit

theorem kept_drewN (w : World) (n : Nat) : Kept w (w.drewN n) := ⟨⟨rfl, rfl, rfl, Nat.le_refl _, fun _ _ => rfl⟩, fun _ => rfl⟩

/-- The table: cell r of block 0 holds the bytes of a group of r digits. -/
def Tab (w : World) : Prop := 0 < w.heap.size ∧ ∀ r : Int, 0 ≤ r → r < 9 → w.cell? ⟨0, r.toNat, none⟩ = some (.int .i64 ((4 * r + 8) / 9))
theorem Tab.kept {w w' : World} (h : Tab w) (hk : Kept w w') : Tab w' :=
  ⟨Nat.lt_of_lt_of_le h.1 hk.below.size, fun r h0 h1 => (hk.cells _ _ h.1).trans (h.2 r h0 h1)⟩

set_option maxHeartbeats 400000 in
theorem size_core (p s Q1 R1 G1 Q2 R2 G2 : Int) (w : World) (s0 : 0 ≤ s) (s1 : s ≤ p) (p1 : p ≤ 1152921504606846999)
    (hQ1 : (p - s) / 9 = Q1) (hR1 : (p - s) % 9 = R1) (hQ2 : s / 9 = Q2) (hR2 : s % 9 = R2)
    (a1 : 0 ≤ Q1) (a2 : Q1 ≤ 1152921504606846999) (a3 : 0 ≤ R1) (a4 : R1 < 9) (b1 : 0 ≤ Q2) (b2 : Q2 ≤ 1152921504606846999) (b3 : 0 ≤ R2) (b4 : R2 < 9)
    (c1 : w.cell? ⟨0, R1.toNat, none⟩ = some (.int .i64 G1)) (c2 : w.cell? ⟨0, R2.toNat, none⟩ = some (.int .i64 G2)) (d1 : 0 ≤ G1) (d2 : G1 ≤ 4) (d3 : 0 ≤ G2) (d4 : G2 ≤ 4) :
    Calls Tryd.prog 14 #[.int .i64 p, .int .i64 s] w fun e w' => e = .returned (.int .i64 (Q1 * 4 + G1 + Q2 * 4 + G2)) ∧ Kept w w' := by
  go_enter Tryd.func14, Tryd.ntmps14
  go_wp2
  go_quiet (fail)
  go_wp2
  go_ret
  exact ⟨rfl, kept_drewN _ _⟩

/-- the size of p digits, s of them behind the point -/
def dsz (p s : Int) : Int := (4 * (p - s) + 8) / 9 + (4 * s + 8) / 9

theorem nine (d : Int) : d / 9 * 4 + (4 * (d % 9) + 8) / 9 = (4 * d + 8) / 9 := by omega

theorem size_any (p s : Int) (w : World) (ht : Tab w) (s0 : 0 ≤ s) (s1 : s ≤ p) (p1 : p ≤ 1152921504606846999) :
    Calls Tryd.prog 14 #[.int .i64 p, .int .i64 s] w fun e w' => e = .returned (.int .i64 (dsz p s)) ∧ Kept w w' := by
  have := size_core p s _ _ _ _ _ _ w s0 s1 p1 rfl rfl rfl rfl (by omega) (by omega) (by omega) (by omega) (by omega) (by omega) (by omega) (by omega) (ht.2 _ (by omega) (by omega)) (ht.2 _ (by omega) (by omega)) (by omega) (by omega) (by omega) (by omega)
  rw [show (p - s) / 9 * 4 + (4 * ((p - s) % 9) + 8) / 9 + s / 9 * 4 + (4 * (s % 9) + 8) / 9 = dsz p s by unfold dsz; rw [← nine (p - s), ← nine s]; omega] at this
  exact this

set_option maxHeartbeats 400000 in
theorem zzsize_any (p s D : Int) (w : World) (ht : Tab w) (s0 : 0 ≤ s) (s1 : s ≤ p) (p1 : p ≤ 1152921504606846999) (hD : dsz p s = D) :
    Calls Tryd.prog 7 #[.int .i64 p, .int .i64 s] w fun e w' => e = .returned (.int .i64 D) ∧ Kept w w' := by
  have HD : Hid (dsz p s = D) := hD
  clear hD
  go_enter Tryd.func7, Tryd.ntmps7
  go_wp2_with (go_at_call 14; refine (size_any p s _ ht s0 s1 p1).mono ?_; rw [HD.out]; rintro e w' ⟨rfl, hk⟩)
  go_ret
  exact ⟨rfl, hk⟩

set_option maxHeartbeats 400000 in
theorem ceil_any (n D : Int) (w : World) (n0 : 0 ≤ n) (n1 : n ≤ 1152921504606846976) (hD : Hid ((4 * n + 8) / 9 = D)) :
    Calls Tryd.prog 8 #[.int .i64 n] w fun e w' => e = .returned (.int .i64 D) ∧ w' = w := by
  go_enter Tryd.func8, Tryd.ntmps8
  go_wp2
  go_ret
  rw [← hD.out]
  exact ⟨rfl, rfl⟩

set_option maxHeartbeats 1000000 in
theorem law_each_main (p s A I F J K : Int) (w : World) (ht : Hid (Tab w)) (s0 : 0 ≤ s) (s1 : s ≤ p) (p1 : p ≤ 1152921504606846976)
    (hA : Hid (dsz p s = A)) (hI : Hid (dsz (p - s) 0 = I)) (hF : Hid (dsz s s = F)) (hJ : Hid ((4 * (p - s) + 8) / 9 = J)) (hK : Hid ((4 * s + 8) / 9 = K))
    (e1 : A = J + K) (e2 : I = J) (e3 : F = K) (j0 : 0 ≤ J) (j1 : J ≤ 1152921504606846999) (k0 : 0 ≤ K) (k1 : K ≤ 1152921504606846999) :
    Calls Tryd.prog 3 #[.int .i64 p, .int .i64 s] w fun e w' => e = .returned (.bool true) ∧ Kept w w' := by
  subst e1 e2 e3
  go_enter Tryd.func3, Tryd.ntmps3
  go_wp2_with fail
  refine (zzsize_any p s _ _ ht.out s0 s1 (by omega) hA.out).mono ?_
  rintro e w1 ⟨rfl, hk1⟩
  go_wp2_with fail
  refine (zzsize_any (p - s) 0 _ _ (ht.out.kept hk1) (by omega) (by omega) (by omega) hI.out).mono ?_
  rintro e w2 ⟨rfl, hk2⟩
  go_wp2_with fail
  refine (zzsize_any s s _ _ ((ht.out.kept hk1).kept hk2) s0 (by omega) (by omega) hF.out).mono ?_
  rintro e w3 ⟨rfl, hk3⟩
  go_wp2_with fail
  refine (ceil_any (p - s) _ _ (by omega) (by omega) hJ).mono ?_
  rintro e w4 ⟨rfl, rfl⟩
  go_wp2_with fail
  refine (ceil_any s _ _ (by omega) (by omega) hK).mono ?_
  rintro e w5 ⟨rfl, rfl⟩
  go_wp2
  go_ret
  exact ⟨rfl, (hk1.trans hk2).trans hk3⟩

set_option maxHeartbeats 400000 in
theorem law_each (p s : Int) (w : World) (ht : Tab w) (b1 : -9223372036854775808 ≤ p) (b2 : p ≤ 9223372036854775807) (b3 : -9223372036854775808 ≤ s) (b4 : s ≤ 9223372036854775807) :
    Calls Tryd.prog 3 #[.int .i64 p, .int .i64 s] w fun e w' => e = .returned (.bool true) ∧ Kept w w' := by
  by_cases c1 : s < 0
  · clear ht
    go_enter Tryd.func3, Tryd.ntmps3
    go_wp2
    go_ret
    exact ⟨rfl, Kept.refl _⟩
  by_cases c2 : p < s
  · clear ht
    go_enter Tryd.func3, Tryd.ntmps3
    go_wp2
    go_ret
    exact ⟨rfl, Kept.refl _⟩
  by_cases c3 : 1152921504606846976 < p
  · clear ht
    go_enter Tryd.func3, Tryd.ntmps3
    go_wp2
    go_ret
    exact ⟨rfl, Kept.refl _⟩
  refine law_each_main p s (dsz p s) (dsz (p - s) 0) (dsz s s) ((4 * (p - s) + 8) / 9) ((4 * s + 8) / 9) w ht (by omega) (by omega) (by omega) rfl rfl rfl rfl rfl rfl ?_ ?_ (by omega) (by omega) (by omega) (by omega)
  · unfold dsz; omega
  · unfold dsz; omega

set_option maxHeartbeats 1000000 in
theorem law_nine_main (p s A B C D E : Int) (w : World) (ht : Hid (Tab w)) (s0 : 0 ≤ s) (s1 : s ≤ p) (p1 : p ≤ 1152921504606846976)
    (hA : Hid (dsz p s = A)) (hB : Hid (dsz (p + 9) s = B)) (hC : Hid (dsz (p + 9) (s + 9) = C)) (hD : Hid (dsz (p + 1) s = D)) (hE : Hid (dsz (p + 1) (s + 1) = E))
    (e1 : B = A + 4) (e2 : C = A + 4) (e3 : A ≤ D) (e4 : A ≤ E) (e5 : 4 * p ≤ 9 * A) (e6 : 9 * A < 4 * p + 18) :
    Calls Tryd.prog 4 #[.int .i64 p, .int .i64 s] w fun e w' => e = .returned (.bool true) ∧ Kept w w' := by
  subst e1 e2
  go_enter Tryd.func4, Tryd.ntmps4
  go_wp2_with fail
  refine (zzsize_any p s _ _ ht.out s0 s1 (by omega) hA.out).mono ?_
  rintro e w1 ⟨rfl, hk1⟩
  go_wp2_with fail
  refine (zzsize_any (p + 9) s _ _ (ht.out.kept hk1) (by omega) (by omega) (by omega) hB.out).mono ?_
  rintro e w2 ⟨rfl, hk2⟩
  go_wp2_with fail
  refine (zzsize_any (p + 9) (s + 9) _ _ ((ht.out.kept hk1).kept hk2) (by omega) (by omega) (by omega) hC.out).mono ?_
  rintro e w3 ⟨rfl, hk3⟩
  go_wp2_with fail
  refine (zzsize_any (p + 1) s _ _ (((ht.out.kept hk1).kept hk2).kept hk3) (by omega) (by omega) (by omega) hD.out).mono ?_
  rintro e w4 ⟨rfl, hk4⟩
  go_wp2_with fail
  refine (zzsize_any (p + 1) (s + 1) _ _ ((((ht.out.kept hk1).kept hk2).kept hk3).kept hk4) (by omega) (by omega) (by omega) hE.out).mono ?_
  rintro e w5 ⟨rfl, hk5⟩
  go_wp2
  go_ret
  exact ⟨rfl, (((hk1.trans hk2).trans hk3).trans hk4).trans hk5⟩

set_option maxHeartbeats 400000 in
theorem law_nine (p s : Int) (w : World) (ht : Tab w) (b1 : -9223372036854775808 ≤ p) (b2 : p ≤ 9223372036854775807) (b3 : -9223372036854775808 ≤ s) (b4 : s ≤ 9223372036854775807) :
    Calls Tryd.prog 4 #[.int .i64 p, .int .i64 s] w fun e w' => e = .returned (.bool true) ∧ Kept w w' := by
  by_cases c1 : s < 0
  · clear ht
    go_enter Tryd.func4, Tryd.ntmps4
    go_wp2
    go_ret
    exact ⟨rfl, Kept.refl _⟩
  by_cases c2 : p < s
  · clear ht
    go_enter Tryd.func4, Tryd.ntmps4
    go_wp2
    go_ret
    exact ⟨rfl, Kept.refl _⟩
  by_cases c3 : 1152921504606846976 < p
  · clear ht
    go_enter Tryd.func4, Tryd.ntmps4
    go_wp2
    go_ret
    exact ⟨rfl, Kept.refl _⟩
  refine law_nine_main p s _ _ _ _ _ w ht (by omega) (by omega) (by omega) rfl rfl rfl rfl rfl ?_ ?_ ?_ ?_ ?_ ?_
  · unfold dsz; omega
  · unfold dsz; rw [show p + 9 - (s + 9) = p - s by omega]; omega
  · unfold dsz; omega
  · unfold dsz; rw [show p + 1 - (s + 1) = p - s by omega]; omega
  · unfold dsz; omega
  · unfold dsz; omega
end Go.Proofs.Qxb6614863aDoor
