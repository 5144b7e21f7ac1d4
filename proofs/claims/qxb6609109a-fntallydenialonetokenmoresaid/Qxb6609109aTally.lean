import Derived.Test.Qxb6609109aDiv
import Derived.Deep.RegionHeld3
set_option linter.unusedVariables false
namespace Go.Proofs.Qxb6609109a
open Go.RowKit

theorem cell_alloc {w : World} {b i : Nat} {v : Value} (o : Obj) (h : b < w.heap.size) (hc : w.cell? ⟨b, i, none⟩ = some v) : (w.alloc o).cell? ⟨b, i, none⟩ = some v :=
  (((Below.refl w.heap.size w).alloc (Nat.le_refl _) o).cell (p := ⟨b, i, none⟩) h).trans hc

set_option maxHeartbeats 400000 in
theorem denial_any (b b2 : Nat) (period token stored need m s1 s2 : Int) (w : World) (hdv : M.IsDiv token m s1 s2) (hb : b < w.heap.size) (hb2 : b2 < w.heap.size)
    (c0 : w.cell? ⟨b, 0, none⟩ = some (.pointer (some ⟨b2, 0, none⟩))) (c1 : w.cell? ⟨b, 1, none⟩ = some (.int .i64 stored)) (c2 : w.cell? ⟨b, 2, none⟩ = some (.int .i64 need))
    (e4 : w.cell? ⟨b2, 4, none⟩ = some (.int .i64 period)) (e5 : w.cell? ⟨b2, 5, none⟩ = some (.int .u64 m)) (e6 : w.cell? ⟨b2, 6, none⟩ = some (.int .u8 s1)) (e7 : w.cell? ⟨b2, 7, none⟩ = some (.int .u8 s2))
    (q0 : 0 ≤ max stored 0) (q1 : max stored 0 < 9223372036854775808) :
    Calls Try.prog 17 #[.pointer (some ⟨b, 0, none⟩)] w fun e w' => e = .returned (.agg #[.bool false, .int .i64 (max stored 0 / token), .int .i64 (max (IntKind.i64.wrap (need - stored)) 0), .int .i64 (IntKind.i64.wrap (period - stored))]) ∧ Kept w w' := by
  have i0 := World.new_ne w _ c0
  have i1 := World.new_ne w _ e4
  go_enter Try.func17, Try.ntmps17
  go_wp2
  go_region_held3 (fun w' => w'.cell? ⟨b, 0, none⟩ = some (.pointer (some ⟨b2, 0, none⟩)) ∧ w'.cell? ⟨b, 2, none⟩ = some (.int .i64 need) ∧ w'.cell? ⟨b2, 4, none⟩ = some (.int .i64 period) ∧ w'.cell? ⟨b2, 5, none⟩ = some (.int .u64 m) ∧ w'.cell? ⟨b2, 6, none⟩ = some (.int .u8 s1) ∧ w'.cell? ⟨b2, 7, none⟩ = some (.int .u8 s2)) (go_keep)
    ((go_at_call 19; refine (quo_any token m s1 s2 _ _ hdv q0 q1).mono ?_; rintro e w' ⟨rfl, c, rfl⟩))
  all_goals go_wp2
  all_goals (refine bodyPost_ret (v := .agg #[.bool false, .int .i64 (max stored 0 / token), .int .i64 (max (IntKind.i64.wrap (need - stored)) 0), .int .i64 (IntKind.i64.wrap (period - stored))]) ?_ rfl ⟨rfl, by repeat (first | exact Kept.refl _ | apply Kept.drew | apply Kept.alloc)⟩; simp [results, Try.results17, go_sem])

set_option maxHeartbeats 400000 in
theorem tally_any (b b2 : Nat) (period token stored need m s1 s2 : Int) (w : World) (hdv : M.IsDiv token m s1 s2) (hb : b < w.heap.size) (hb2 : b2 < w.heap.size)
    (c0 : w.cell? ⟨b, 0, none⟩ = some (.pointer (some ⟨b2, 0, none⟩))) (c1 : w.cell? ⟨b, 1, none⟩ = some (.int .i64 stored)) (c2 : w.cell? ⟨b, 2, none⟩ = some (.int .i64 need))
    (e4 : w.cell? ⟨b2, 4, none⟩ = some (.int .i64 period)) (e5 : w.cell? ⟨b2, 5, none⟩ = some (.int .u64 m)) (e6 : w.cell? ⟨b2, 6, none⟩ = some (.int .u8 s1)) (e7 : w.cell? ⟨b2, 7, none⟩ = some (.int .u8 s2))
    (q0 : 0 ≤ max stored 0) (q1 : max stored 0 < 9223372036854775808) (R W U : Int) (hR : Hid (max stored 0 / token = R)) (hW : Hid (max (IntKind.i64.wrap (need - stored)) 0 = W)) (hU : Hid (IntKind.i64.wrap (period - stored) = U)) :
    Calls Try.prog 12 #[.pointer (some ⟨b, 0, none⟩), .bool false] w fun e w' => e = .returned (.agg #[.bool false, .int .i64 R, .int .i64 W, .int .i64 U]) ∧ Kept w w' := by
  go_enter Try.func12, Try.ntmps12
  go_wp2_with fail
  have HC := denial_any b b2 period token stored need m s1 s2 (w.alloc (Obj.cells #[Value.bool false, Value.int IntKind.i64 0, Value.int IntKind.i64 0, Value.int IntKind.i64 0] 50)) hdv
    (by simp; omega) (by simp; omega) (cell_alloc _ hb c0) (cell_alloc _ hb c1) (cell_alloc _ hb c2) (cell_alloc _ hb2 e4) (cell_alloc _ hb2 e5) (cell_alloc _ hb2 e6) (cell_alloc _ hb2 e7) q0 q1
  rw [hR.out, hW.out, hU.out] at HC
  refine HC.mono ?_
  rintro e w1 ⟨rfl, hk⟩
  have hc := hk.cells
  have hf := hk.frozen
  go_wp2
  refine bodyPost_ret (v := .agg #[.bool false, .int .i64 R, .int .i64 W, .int .i64 U]) ?_ rfl ⟨rfl, ?_⟩
  · simp [results, Try.results12, go_sem, hc]
  · exact (((((((Kept.refl w).alloc _ _).trans hk).setCell (Nat.le_refl _) _).setCell (Nat.le_refl _) _).setCell (Nat.le_refl _) _).setCell (Nat.le_refl _) _)

set_option maxHeartbeats 400000 in
theorem nsTally_any (period token stored need R W U : Int) (w : World) (t1 : 1 ≤ token) (t2 : token ≤ 9223372036854775807) (q0 : 0 ≤ max stored 0) (q1 : max stored 0 < 9223372036854775808)
    (hR : Hid (max stored 0 / token = R)) (hW : Hid (max (IntKind.i64.wrap (need - stored)) 0 = W)) (hU : Hid (IntKind.i64.wrap (period - stored) = U)) :
    Calls Try.prog 8 #[.int .i64 period, .int .i64 token, .int .i64 stored, .int .i64 need, .bool false] w fun e w' => e = .returned (.tuple #[.bool false, .int .i64 R, .int .i64 W, .int .i64 U]) ∧ Kept w w' := by
  go_enter Try.func8, Try.ntmps8
  go_wp2_with (first | (go_at_call 11; refine (newDivisor_any token _ t1 t2).mono ?_; rintro e w1 ⟨⟨m, s1, s2, hdv, rfl⟩, hk1⟩))
  refine (tally_any (w1.heap.size + 1) w1.heap.size period token stored need m s1 s2 _ hdv (by simp) (by simp; omega) (by simp [go_sem]) (by simp [go_sem]) (by simp [go_sem]) (by simp [go_sem]) (by simp [go_sem]) (by simp [go_sem]) (by simp [go_sem]) q0 q1 R W U hR hW hU).mono ?_
  rintro e w2 ⟨rfl, hk2⟩
  go_wp2
  go_region
  go_wp2
  refine bodyPost_ret (v := .tuple #[.bool false, .int .i64 R, .int .i64 W, .int .i64 U]) ?_ rfl ⟨rfl, ?_⟩
  · simp [results, Try.results8, go_sem]
  · exact ((((hk1.alloc _ _).alloc _ _).trans hk2).alloc _ _).drew
end Go.Proofs.Qxb6609109a
