import Derived.Test.Qxb6609109aFmtWords
import Derived.Test.Qxb6609109aFmtFmt
import Derived.Deep.DeepCutAuto
set_option linter.unusedVariables false
namespace Go.Proofs.Qxb6609109aFmt
open Go.RowKit

theorem cell_alloc {w : World} {b i : Nat} {v : Value} (o : Obj) (h : b < w.heap.size) (hc : w.cell? ⟨b, i, none⟩ = some v) : (w.alloc o).cell? ⟨b, i, none⟩ = some v :=
  (((Below.refl w.heap.size w).alloc (Nat.le_refl _) o).cell (p := ⟨b, i, none⟩) h).trans hc

set_option maxRecDepth 100000 in
set_option maxHeartbeats 400000 in
theorem read_ok (bl bs cap : Nat) (C P now h0 l0 h1 l1 h2 l2 H cw : Int) (w : World) (hst : St w bl bs C P h0 l0 h1 l1 h2 l2)
    (HH : Hid (IntKind.i64.wrap (bits .xor .u64 h0 9223372036854775808) = H)) (hcw : IntKind.i64.wrap l0 = cw) (hsh : (H != cw / 9223372036854775808) = false)
    (z1 : (h1 != 0) = false) (z2 : (h2 != 0) = false) (le1 : decide (C < l1) = false) (le2 : decide (C < l2) = false) (q1 : 0 ≤ l1) (q2 : 0 ≤ l2) (C0 : 1 ≤ C) (C1 : C ≤ 9223372036854775807) (p0 : 1 ≤ P) (p1 : P ≤ 9223372036854775807) (j1 : l1 ≤ C) (j2 : l2 ≤ C) (n1 : -9223372036854775808 ≤ now) (n2 : now < 9223372036854775808) (a1 : -9223372036854775808 ≤ cw) (a2 : cw ≤ 9223372036854775807)
    (r1 r2 W L : Int) (r3 : Bool) (hwi : Hid (WI cw l1 l2 (now / P) r1 r2 r3)) (hW : Hid ((if r3 = true then cw else now / P) = W)) (hL : Hid ((if r3 = true then P else P - now % P) = L)) :
    Calls Tryf.prog 18 #[.agg #[], .pointer (some ⟨bl, 0, none⟩), .slice (some ⟨bs, 0, none⟩) 3 cap, .int .i64 now] w fun e w' => ∃ bm bw : Nat, e = .returned (.tuple #[.pointer (some ⟨bm, 0, none⟩), .nilIface]) ∧ Kept w w' ∧ w.heap.size ≤ bm ∧ Mt w' bm (.pointer (some ⟨bw, 0, none⟩)) (.int .i64 now) (.int .i64 W) (.int .i64 L) (.int .i64 r1) (.int .i64 r2) (.bool r3) := by
  obtain ⟨hl, hs, e0, e1, s0, s1, s2, s3, s4, s5⟩ := hst
  have hl1 : bl < w.heap.size + 1 := by omega
  have hs1 : bs < w.heap.size + 1 := by omega
  go_enter Tryf.func18, Tryf.ntmps18
  go_wp2_with (go_at_call 22; refine (fromSigned_any h0 l0 H _ HH.out).mono ?_; rintro e w1 ⟨rfl, hk1⟩; have hc1 := hk1.cells; have hf1 := hk1.frozen)
  have hl2 : bl < w1.heap.size := Nat.lt_of_lt_of_le hl1 (by simpa using hk1.below.size)
  have hs2 : bs < w1.heap.size := Nat.lt_of_lt_of_le hs1 (by simpa using hk1.below.size)
  have hs3 : bs < w1.heap.size + 1 := by omega
  have G0 : Hid (w1.cell? ⟨bl, 0, none⟩ = some (.int .i64 C)) := (hk1.cells bl 0 (by simpa using hl1)).trans (cell_alloc _ hl e0)
  have G1 : Hid (w1.cell? ⟨bl, 1, none⟩ = some (.int .i64 P)) := (hk1.cells bl 1 (by simpa using hl1)).trans (cell_alloc _ hl e1)
  have hs4 : bs < w1.heap.size + 1 + 1 := by omega
  go_cut [11, 12] (fun p q wx => ∃ b11 b12 : Nat, p = .pointer (some ⟨b11, 0, none⟩) ∧ q = .pointer (some ⟨b12, 0, none⟩) ∧ Kept w wx ∧ w1.heap.size < wx.heap.size ∧ b11 < wx.heap.size ∧ b12 < wx.heap.size ∧ wx.cell? ⟨bl, 0, none⟩ = some (.int .i64 C) ∧ wx.cell? ⟨bl, 1, none⟩ = some (.int .i64 P) ∧ wx.cell? ⟨w1.heap.size, 0, none⟩ = some (.int .i64 H) ∧ wx.cell? ⟨w1.heap.size, 1, none⟩ = some (.int .u64 l0) ∧ wx.cell? ⟨b11, 0, none⟩ = some (.int .u64 h1) ∧ wx.cell? ⟨b11, 1, none⟩ = some (.int .u64 l1) ∧ wx.cell? ⟨b12, 0, none⟩ = some (.int .u64 h2) ∧ wx.cell? ⟨b12, 1, none⟩ = some (.int .u64 l2))
  case first =>
    go_region_held3 (fun w' => w'.cell? ⟨bs, 2, none⟩ = some (.int .u64 h1) ∧ w'.cell? ⟨bs, 3, none⟩ = some (.int .u64 l1) ∧ w'.cell? ⟨bs, 4, none⟩ = some (.int .u64 h2) ∧ w'.cell? ⟨bs, 5, none⟩ = some (.int .u64 l2)) (simp [go_sem, *]) (fail)
    · go_wp2_with fail
      go_meet
      case rel =>
        refine ⟨_, _, rfl, rfl, ((((((Kept.refl w).alloc _ _).trans hk1).alloc _ _).alloc _ _).alloc _ _).drew, by simp; omega, by simp, by simp, ?_⟩
        have k1 := (((((Kept.refl w1).alloc #[.int .i64 H, .int .u64 l0] 63).alloc #[.int .u64 h1, .int .u64 l1] 32).alloc #[.int .u64 h2, .int .u64 l2] 32)).drew
        exact ⟨(k1.cells _ _ hl2).trans G0.out, (k1.cells _ _ hl2).trans G1.out, by simp [go_sem], by simp [go_sem], by simp [go_sem], by simp [go_sem], by simp [go_sem], by simp [go_sem]⟩
    · go_wp2_with fail
      go_meet
      case rel =>
        refine ⟨_, _, rfl, rfl, ((((((Kept.refl w).alloc _ _).trans hk1).alloc _ _).alloc _ _).alloc _ _).drew, by simp; omega, by simp, by simp, ?_⟩
        have k1 := (((((Kept.refl w1).alloc #[.int .i64 H, .int .u64 l0] 63).alloc #[.int .u64 h2, .int .u64 l2] 32).alloc #[.int .u64 h1, .int .u64 l1] 32)).drew
        exact ⟨(k1.cells _ _ hl2).trans G0.out, (k1.cells _ _ hl2).trans G1.out, by simp [go_sem], by simp [go_sem], by simp [go_sem], by simp [go_sem], by simp [go_sem], by simp [go_sem]⟩
  case rest =>
    obtain ⟨b11, b12, rfl, rfl, hk2, n10, n11, n12, x0, x1, y0, y1, u0, u1, v0, v1⟩ := hcut
    have hlx : bl < wc.heap.size := Nat.lt_of_lt_of_le hl hk2.below.size
    have hwx := hk2.below.size
    generalize w1.heap.size = b10 at *
    clear s0 s1 s2 s3 s4 s5 e0 e1 hs hs1 hl1 hk1 hc1 hf1 G0 G1 hl2 hs2 hs3 hs4 HH hsh
    go_wp2_with fail
    go_quiet (fail)
    go_wp2_with fail
    refine (newWindows_any C P _ p0 p1).mono ?_
    rintro e w3 ⟨⟨m, t1, t2, hdv, rfl⟩, hk3⟩
    have hz : wc.heap.size ≤ w3.heap.size := hk3.below.size
    have g10 : w3.cell? ⟨b10, 1, none⟩ = some (.int .u64 l0) := (hk3.cells _ _ n10).trans y1
    have g11 : w3.cell? ⟨b11, 1, none⟩ = some (.int .u64 l1) := (hk3.cells _ _ n11).trans u1
    have g12 : w3.cell? ⟨b12, 1, none⟩ = some (.int .u64 l2) := (hk3.cells _ _ n12).trans v1
    have m10 : b10 < w3.heap.size := by omega
    have m11 : b11 < w3.heap.size := by omega
    have m12 : b12 < w3.heap.size := by omega
    have hkw : Hid (Kept w w3) := hk2.trans ((show Kept wc (wc.drewN nq) from ⟨⟨rfl, rfl, rfl, Nat.le_refl _, fun _ _ => rfl⟩, fun _ => rfl⟩).trans hk3)
    have hdv' : Hid (M.IsDiv P m t1 t2) := hdv
    clear x0 x1 u0 u1 v0 v1 y0 y1 n10 n11 n12 hlx hk2 hk3 le1 le2 z1 z2 hdv
    go_wp2_with fail
    refine (load_any (w3.heap.size + 1 + 1) w3.heap.size C P now cw l1 l2 r1 r2 W L r3 (.pointer none) (.int .i64 0) (.int .i64 0) (.int .i64 0) (.int .i64 0) (.int .i64 0) (.bool false) _ ⟨by simp; omega, by simp [go_sem], by simp [go_sem], by simp [go_sem], m, t1, t2, hdv'.out, by simp [go_sem], by simp [go_sem], by simp [go_sem]⟩
      ⟨by simp, by simp [go_sem], by simp [go_sem], by simp [go_sem], by simp [go_sem], by simp [go_sem], by simp [go_sem], by simp [go_sem], fun i => by simp [go_sem]⟩ (by omega) p0 p1 n1 n2 a1 a2 hwi.out hW.out hL.out).mono ?_
    rintro e w4 ⟨rfl, hk4, hm4⟩
    go_wp2
    go_ret2
    exact ⟨_, _, rfl, KeptBut.into (((hkw.out.alloc _ _).alloc _ _).alloc _ _) hk4 (by omega), by omega, hm4⟩
end Go.Proofs.Qxb6609109aFmt
