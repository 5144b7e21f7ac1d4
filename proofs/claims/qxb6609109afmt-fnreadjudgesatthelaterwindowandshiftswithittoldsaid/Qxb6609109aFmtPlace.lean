import Derived.Test.Qxb6609109aFmtPos
set_option linter.unusedVariables false
namespace Go.Proofs.Qxb6609109aFmt
open Go.RowKit

def WI (cw cc cp win r1 r2 : Int) (r3 : Bool) : Prop :=
  (win = cw ∧ r1 = cc ∧ r2 = cp ∧ r3 = false) ∨ (cw + 1 < win ∧ r1 = 0 ∧ r2 = 0 ∧ r3 = false) ∨ (win = cw + 1 ∧ r1 = 0 ∧ r2 = cc ∧ r3 = false) ∨ (win < cw ∧ r1 = cc ∧ r2 = cp ∧ r3 = true)

set_option maxHeartbeats 400000 in
theorem nothing_any (cw cc cp win : Int) (r : Bool) (w : World) (a1 : -9223372036854775808 ≤ cw) (a2 : cw ≤ 9223372036854775807) (b1 : -9223372036854775808 ≤ win) (b2 : win ≤ 9223372036854775807)
    (h : (cw + 1 < win ∧ r = true) ∨ (win ≤ cw ∧ r = false) ∨ (win = cw + 1 ∧ r = false)) :
    Calls Tryf.prog 36 #[.agg #[.int .i64 cw, .int .i64 cc, .int .i64 cp], .int .i64 win] w fun e w' => e = .returned (.bool r) ∧ Kept w w' := by
  rcases h with ⟨h, rfl⟩ | ⟨h, rfl⟩ | ⟨h, rfl⟩
  · have hne : (win - 1 != cw) = true := by rw [bne_iff_ne]; omega
    go_enter Tryf.func36, Tryf.ntmps36
    go_wp2
    go_ret
    exact ⟨rfl, (Kept.refl _).alloc _ _⟩
  · go_enter Tryf.func36, Tryf.ntmps36
    go_wp2
    go_ret
    exact ⟨rfl, (Kept.refl _).alloc _ _⟩
  · subst h
    go_enter Tryf.func36, Tryf.ntmps36
    go_wp2
    go_ret
    exact ⟨rfl, (Kept.refl _).alloc _ _⟩

set_option maxHeartbeats 400000 in
theorem weighed_any (cw cc cp win r1 r2 : Int) (r3 : Bool) (w : World) (a1 : -9223372036854775808 ≤ cw) (a2 : cw ≤ 9223372036854775807) (b1 : -9223372036854775808 ≤ win) (b2 : win ≤ 9223372036854775807) (h : WI cw cc cp win r1 r2 r3) :
    Calls Tryf.prog 33 #[.agg #[.int .i64 cw, .int .i64 cc, .int .i64 cp], .int .i64 win] w fun e w' => e = .returned (.tuple #[.int .i64 r1, .int .i64 r2, .bool r3]) ∧ Kept w w' := by
  rcases h with ⟨h, rfl, rfl, rfl⟩ | ⟨h, rfl, rfl, rfl⟩ | ⟨h, rfl, rfl, rfl⟩ | ⟨h, rfl, rfl, rfl⟩
  · subst h
    go_enter Tryf.func33, Tryf.ntmps33
    go_wp2
    go_region
    go_wp2
    go_ret3
    exact ⟨rfl, ((Kept.refl _).alloc _ _).drew⟩
  · go_enter Tryf.func33, Tryf.ntmps33
    go_wp2_with (go_at_call 36; refine (nothing_any cw cc cp win true _ a1 a2 b1 b2 (.inl ⟨h, rfl⟩)).mono ?_; rintro e w1 ⟨rfl, hk⟩)
    go_ret3
    exact ⟨rfl, ((Kept.refl _).alloc _ _).trans hk⟩
  · subst h
    go_enter Tryf.func33, Tryf.ntmps33
    go_wp2_with (go_at_call 36; refine (nothing_any cw _ cp (cw + 1) false _ a1 a2 b1 b2 (.inr (.inr ⟨rfl, rfl⟩))).mono ?_; rintro e w1 ⟨rfl, hk⟩; have hc := hk.cells)
    go_region
    go_wp2
    go_ret3
    exact ⟨rfl, (((Kept.refl _).alloc _ _).trans hk).drew⟩
  · go_enter Tryf.func33, Tryf.ntmps33
    go_wp2_with (go_at_call 36; refine (nothing_any cw _ _ win false _ a1 a2 b1 b2 (.inr (.inl ⟨by omega, rfl⟩))).mono ?_; rintro e w1 ⟨rfl, hk⟩; have hc := hk.cells)
    go_region
    go_wp2
    go_ret3
    exact ⟨rfl, (((Kept.refl _).alloc _ _).trans hk).drew⟩

/-- A windowMeter struct in block b. -/
structure Mt (w : World) (b : Nat) (v0 v1 v2 v3 v4 v5 v6 : Value) : Prop where
  hb : b < w.heap.size
  c0 : w.cell? ⟨b, 0, none⟩ = some v0
  c1 : w.cell? ⟨b, 1, none⟩ = some v1
  c2 : w.cell? ⟨b, 2, none⟩ = some v2
  c3 : w.cell? ⟨b, 3, none⟩ = some v3
  c4 : w.cell? ⟨b, 4, none⟩ = some v4
  c5 : w.cell? ⟨b, 5, none⟩ = some v5
  c6 : w.cell? ⟨b, 6, none⟩ = some v6
  fr : ∀ i, w.frozen? ⟨b, i, none⟩ = false

theorem Mt.kept {w w' : World} {b : Nat} {v0 v1 v2 v3 v4 v5 v6 : Value} (h : Mt w b v0 v1 v2 v3 v4 v5 v6) (hk : Kept w w') : Mt w' b v0 v1 v2 v3 v4 v5 v6 := by
  have hc := hk.cells
  exact ⟨Nat.lt_of_lt_of_le h.hb hk.below.size, (hc _ _ h.hb).trans h.c0, (hc _ _ h.hb).trans h.c1, (hc _ _ h.hb).trans h.c2, (hc _ _ h.hb).trans h.c3, (hc _ _ h.hb).trans h.c4, (hc _ _ h.hb).trans h.c5, (hc _ _ h.hb).trans h.c6, fun i => (hk.frozen _).trans (h.fr i)⟩

theorem Mt.put {w : World} {b : Nat} {o0 o1 o2 o3 o4 o5 o6 : Value} (h : Mt w b o0 o1 o2 o3 o4 o5 o6) (v0 v1 v2 v3 v4 v5 v6 : Value) :
    Mt (((((((w.setCell ⟨b, 0, none⟩ v0).setCell ⟨b, 1, none⟩ v1).setCell ⟨b, 2, none⟩ v2).setCell ⟨b, 3, none⟩ v3).setCell ⟨b, 4, none⟩ v4).setCell ⟨b, 5, none⟩ v5).setCell ⟨b, 6, none⟩ v6) b v0 v1 v2 v3 v4 v5 v6 := by
  obtain ⟨hb, c0, c1, c2, c3, c4, c5, c6, fr⟩ := h
  refine ⟨by simpa [World.setCell] using hb, ?_, ?_, ?_, ?_, ?_, ?_, ?_, fun i => ?_⟩
  all_goals simp [go_sem, c0, c1, c2, c3, c4, c5, c6, fr]

set_option maxHeartbeats 400000 in
theorem place_any (bm bw : Nat) (C P now : Int) (o0 o1 o2 o3 o4 o5 o6 : Value) (w : World) (hw : Ws w bw C P) (hm : Mt w bm o0 o1 o2 o3 o4 o5 o6) (p0 : 1 ≤ P) (p1 : P ≤ 9223372036854775807) (n1 : -9223372036854775808 ≤ now) (n2 : now < 9223372036854775808) :
    Calls Tryf.prog 28 #[.pointer (some ⟨bm, 0, none⟩), .pointer (some ⟨bw, 0, none⟩), .int .i64 now] w fun e w' => e = .returned (.tuple #[]) ∧ KeptBut bm w w' ∧ Mt w' bm (.pointer (some ⟨bw, 0, none⟩)) (.int .i64 now) (.int .i64 (now / P)) (.int .i64 (P - now % P)) (.int .i64 0) (.int .i64 0) (.bool false) := by
  have HC : Hid (∀ A B : Int, now / P = A → P - now % P = B → Calls Tryf.prog 32 #[.pointer (some ⟨bw, 0, none⟩), .int .i64 now] w fun e w' => (e = .returned (.tuple #[.int .i64 A, .int .i64 B])) ∧ Kept w w') := by
    rintro A B rfl rfl
    exact position_any bw C P now w hw p0 p1 n1 n2
  generalize hA : now / P = A
  generalize hB : P - now % P = B
  have HA : Hid (now / P = A) := hA
  have HB : Hid (P - now % P = B) := hB
  clear hA hB hw
  obtain ⟨hb, c0, c1, c2, c3, c4, c5, c6, fr⟩ := hm
  have HF : Hid (∀ i, w.frozen? ⟨bm, i, none⟩ = false) := fr
  go_enter Tryf.func28, Tryf.ntmps28
  go_wp2_with (go_at_call 32; refine (HC.out A B HA.out HB.out).mono ?_; rintro e w1 ⟨rfl, hk⟩; have hc := hk.cells; have hf := hk.frozen)
  go_end0
  refine ⟨rfl, ((((((hk.but.setCell _ _).setCell _ _).setCell _ _).setCell _ _).setCell _ _).setCell _ _).setCell _ _, ?_⟩
  exact (Mt.kept ⟨hb, c0, c1, c2, c3, c4, c5, c6, HF.out⟩ hk).put _ _ _ _ _ _ _
end Go.Proofs.Qxb6609109aFmt
