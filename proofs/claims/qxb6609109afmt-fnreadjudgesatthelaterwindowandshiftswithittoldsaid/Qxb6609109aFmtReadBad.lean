import Derived.Test.Qxb6609109aFmtReadOk
set_option linter.unusedVariables false
namespace Go.Proofs.Qxb6609109aFmt
open Go.RowKit Go.Extern.Stop Go.Stop Go.Extern
attribute [local go_sem] call25 guard fmt0 fmt0r fmt1 fmt1r fmt2 fmt2r op3_100 op3_100w op2_100 op2_100w op63_118 op63_118w op32_118 op32_118w ptr80 elem80 ptr76

set_option maxHeartbeats 400000 in
theorem read_len (F : Interp) (lim : Addr) (a : Option Addr) (n cap : Nat) (now : Int) (w : World) (hF : F.answers w.tape) (hn : ((n : Int) != 3) = true) :
    Calls Tryf.prog 18 #[.agg #[], .pointer (some lim), .slice a n cap, .int .i64 now] w fun e w' => (∃ x, e = .returned (.tuple #[.pointer none, .iface 80 x])) ∧ Kept w w' := by
  have hF' := hF
  unfold Interp.answers at hF'
  go_enter Tryf.func18, Tryf.ntmps18
  go_wp2
  go_ret2
  exact ⟨⟨_, rfl⟩, by repeat (first | exact Kept.refl _ | apply Kept.drew | apply Kept.alloc)⟩

set_option maxHeartbeats 400000 in
theorem errorf_counts (F : Interp) (b : Nat) (h1 l1 h2 l2 C : Int) (w : World) (hF : F.answers w.tape) (hb : b < w.heap.size) (c0 : w.cell? ⟨b, 0, none⟩ = some (.iface 32 (.agg #[.int .u64 h1, .int .u64 l1]))) (c1 : w.cell? ⟨b, 1, none⟩ = some (.iface 32 (.agg #[.int .u64 h2, .int .u64 l2]))) (c2 : w.cell? ⟨b, 2, none⟩ = some (.iface 2 (.int .i64 C))) :
    Calls Tryf.prog 21 #[.string ⟨#[99, 111, 117, 110, 116, 115, 32, 37, 118, 32, 97, 110, 100, 32, 37, 118, 44, 32, 97, 98, 111, 118, 101, 32, 116, 104, 101, 32, 67, 111, 117, 110, 116, 32, 111, 102, 32, 37, 100]⟩, .slice (some ⟨b, 0, none⟩) 3 3] w fun e w' => (∃ x, e = .returned (.iface 80 x)) ∧ Kept w w' := by
  have hF' := hF
  unfold Interp.answers at hF'
  go_enter Tryf.func21, Tryf.ntmps21
  go_wp2
  go_ret
  exact ⟨⟨_, rfl⟩, by repeat (first | exact Kept.refl _ | apply Kept.drew | apply Kept.alloc)⟩

set_option maxHeartbeats 400000 in
theorem errorf_window (F : Interp) (b : Nat) (H l0 : Int) (w : World) (hF : F.answers w.tape) (hb : b < w.heap.size) (c0 : w.cell? ⟨b, 0, none⟩ = some (.iface 63 (.agg #[.int .i64 H, .int .u64 l0]))) :
    Calls Tryf.prog 21 #[.string ⟨#[119, 105, 110, 100, 111, 119, 32, 110, 117, 109, 98, 101, 114, 32, 37, 118, 44, 32, 119, 104, 105, 99, 104, 32, 105, 115, 32, 110, 111, 116, 32, 97, 110, 32, 105, 110, 116, 54, 52]⟩, .slice (some ⟨b, 0, none⟩) 1 1] w fun e w' => (∃ x, e = .returned (.iface 80 x)) ∧ Kept w w' := by
  have hF' := hF
  unfold Interp.answers at hF'
  go_enter Tryf.func21, Tryf.ntmps21
  go_wp2
  go_ret
  exact ⟨⟨_, rfl⟩, by repeat (first | exact Kept.refl _ | apply Kept.drew | apply Kept.alloc)⟩

set_option maxHeartbeats 400000 in
theorem read_window (F : Interp) (bl bs cap : Nat) (C P now h0 l0 h1 l1 h2 l2 H cw : Int) (w : World) (hF : F.answers w.tape) (hst : St w bl bs C P h0 l0 h1 l1 h2 l2)
    (HH : Hid (IntKind.i64.wrap (bits .xor .u64 h0 9223372036854775808) = H)) (hcw : IntKind.i64.wrap l0 = cw) (hsh : (H != cw / 9223372036854775808) = true) :
    Calls Tryf.prog 18 #[.agg #[], .pointer (some ⟨bl, 0, none⟩), .slice (some ⟨bs, 0, none⟩) 3 cap, .int .i64 now] w fun e w' => (∃ x, e = .returned (.tuple #[.pointer none, .iface 80 x])) ∧ Kept w w' := by
  obtain ⟨hl, hs, e0, e1, s0, s1, s2, s3, s4, s5⟩ := hst
  have hl1 : bl < w.heap.size + 1 := by omega
  have hs1 : bs < w.heap.size + 1 := by omega
  go_enter Tryf.func18, Tryf.ntmps18
  go_wp2_with (go_at_call 22; refine (fromSigned_any h0 l0 H _ HH.out).mono ?_; rintro e w1 ⟨rfl, hk1⟩; have hc1 := hk1.cells; have hf1 := hk1.frozen)
  have kw : Hid (Kept w w1) := ((Kept.refl w).alloc _ _).trans hk1
  refine (errorf_window F (w1.heap.size + 1) H l0 _ ?_ (by simp) (by simp [go_sem])).mono ?_
  · have := ((kw.out.alloc #[.int .i64 H, .int .u64 l0] 63).alloc #[.iface 63 (.agg #[.int .i64 H, .int .u64 l0])] 20).below.tape
    rw [this]; exact hF
  rintro e w2 ⟨⟨x, rfl⟩, hk2⟩
  go_wp2
  go_ret2
  exact ⟨⟨_, rfl⟩, ((kw.out.alloc _ _).alloc _ _).trans hk2⟩

set_option maxRecDepth 100000 in
set_option maxHeartbeats 400000 in
theorem read_counts (F : Interp) (bl bs cap : Nat) (C P now h0 l0 h1 l1 h2 l2 H cw : Int) (w : World) (hF : F.answers w.tape) (hst : St w bl bs C P h0 l0 h1 l1 h2 l2)
    (HH : Hid (IntKind.i64.wrap (bits .xor .u64 h0 9223372036854775808) = H)) (hcw : IntKind.i64.wrap l0 = cw) (hsh : (H != cw / 9223372036854775808) = false)
    (q1 : 0 ≤ l1) (q2 : 0 ≤ l2) (C0 : 1 ≤ C) (C1 : C ≤ 9223372036854775807)
    (hbad : Hid ((h1 != 0) = true ∨ ((h1 != 0) = false ∧ (h2 != 0) = true) ∨ ((h1 != 0) = false ∧ (h2 != 0) = false ∧ decide (C < l1) = true) ∨ ((h1 != 0) = false ∧ (h2 != 0) = false ∧ decide (C < l1) = false ∧ decide (C < l2) = true))) :
    Calls Tryf.prog 18 #[.agg #[], .pointer (some ⟨bl, 0, none⟩), .slice (some ⟨bs, 0, none⟩) 3 cap, .int .i64 now] w fun e w' => (∃ x, e = .returned (.tuple #[.pointer none, .iface 80 x])) ∧ Kept w w' := by
  obtain ⟨hl, hs, e0, e1, s0, s1, s2, s3, s4, s5⟩ := hst
  have hl1 : bl < w.heap.size + 1 := by omega
  have hs1 : bs < w.heap.size + 1 := by omega
  go_enter Tryf.func18, Tryf.ntmps18
  go_wp2_with (go_at_call 22; refine (fromSigned_any h0 l0 H _ HH.out).mono ?_; rintro e w1 ⟨rfl, hk1⟩; have hc1 := hk1.cells; have hf1 := hk1.frozen)
  have hl2 : bl < w1.heap.size := Nat.lt_of_lt_of_le hl1 (by simpa using hk1.below.size)
  have hs2 : bs < w1.heap.size := Nat.lt_of_lt_of_le hs1 (by simpa using hk1.below.size)
  have hs3 : bs < w1.heap.size + 1 := by omega
  have G0 : Hid (w1.cell? ⟨bl, 0, none⟩ = some (.int .i64 C)) := (hk1.cells bl 0 (by simpa using hl1)).trans (cell_alloc _ hl e0)
  have G1 : Hid (w1.cell? ⟨bl, 1, none⟩ = some (.int .i64 P)) := (hk1.cells bl 1 (by simpa using hl1)).trans (cell_alloc _ hl e1)
  have hs4 : bs < w1.heap.size + 1 + 1 := by omega
  go_cut [11, 12] (fun p q wx => ∃ b11 b12 : Nat, p = .pointer (some ⟨b11, 0, none⟩) ∧ q = .pointer (some ⟨b12, 0, none⟩) ∧ Kept w wx ∧ w1.heap.size < wx.heap.size ∧ b11 < wx.heap.size ∧ b12 < wx.heap.size ∧ wx.cell? ⟨bl, 0, none⟩ = some (.int .i64 C) ∧ wx.cell? ⟨bl, 1, none⟩ = some (.int .i64 P) ∧ wx.cell? ⟨w1.heap.size, 0, none⟩ = some (.int .i64 H) ∧ wx.cell? ⟨w1.heap.size, 1, none⟩ = some (.int .u64 l0) ∧ wx.cell? ⟨b11, 0, none⟩ = some (.int .u64 h1) ∧ wx.cell? ⟨b11, 1, none⟩ = some (.int .u64 l1) ∧ wx.cell? ⟨b12, 0, none⟩ = some (.int .u64 h2) ∧ wx.cell? ⟨b12, 1, none⟩ = some (.int .u64 l2))
  case first =>
    go_region_held3 (fun w' => w'.cell? ⟨bs, 2, none⟩ = some (.int .u64 h1) ∧ w'.cell? ⟨bs, 3, none⟩ = some (.int .u64 l1) ∧ w'.cell? ⟨bs, 4, none⟩ = some (.int .u64 h2) ∧ w'.cell? ⟨bs, 5, none⟩ = some (.int .u64 l2)) (simp [go_sem, *]) (fail)
    · go_wp2_with fail
      go_meet
      case rel =>
        refine ⟨_, _, rfl, rfl, ((((((Kept.refl w).alloc _ _).trans hk1).alloc _ _).alloc _ _).alloc _ _).drew, by simp; omega, by simp, by simp, ?_⟩
        have k1 := (((((Kept.refl w1).alloc #[.int .i64 H, .int .u64 l0] 63).alloc #[.int .u64 h1, .int .u64 l1] 32).alloc #[.int .u64 h2, .int .u64 l2] 32)).drew
        exact ⟨(k1.cells _ _ hl2).trans G0.out, (k1.cells _ _ hl2).trans G1.out, by simp [go_sem], by simp [go_sem], by simp [go_sem], by simp [go_sem], by simp [go_sem], by simp [go_sem]⟩
    · go_wp2_with fail
      go_meet
      case rel =>
        refine ⟨_, _, rfl, rfl, ((((((Kept.refl w).alloc _ _).trans hk1).alloc _ _).alloc _ _).alloc _ _).drew, by simp; omega, by simp, by simp, ?_⟩
        have k1 := (((((Kept.refl w1).alloc #[.int .i64 H, .int .u64 l0] 63).alloc #[.int .u64 h2, .int .u64 l2] 32).alloc #[.int .u64 h1, .int .u64 l1] 32)).drew
        exact ⟨(k1.cells _ _ hl2).trans G0.out, (k1.cells _ _ hl2).trans G1.out, by simp [go_sem], by simp [go_sem], by simp [go_sem], by simp [go_sem], by simp [go_sem], by simp [go_sem]⟩
  case rest =>
    obtain ⟨b11, b12, rfl, rfl, hk2, n10, n11, n12, x0, x1, y0, y1, u0, u1, v0, v1⟩ := hcut
    have hlx : bl < wc.heap.size := Nat.lt_of_lt_of_le hl hk2.below.size
    have hwx := hk2.below.size
    have hF2 : Hid (F.answers wc.tape) := by have := hk2.below.tape; show F.answers wc.tape; rw [this]; exact hF
    have hk2' : Hid (Kept w wc) := hk2
    generalize w1.heap.size = b10 at *
    clear s0 s1 s2 s3 s4 s5 e0 e1 hs hs1 hl1 hk1 hc1 hf1 G0 G1 hl2 hs2 hs3 hs4 HH hsh hF hk2
    have k0 := World.new_ne wc _ x0
    have k1 := World.new_ne wc _ u0
    have k2 := World.new_ne wc _ v0
    rcases hbad.out with z1 | ⟨z1, z2⟩ | ⟨z1, z2, z3⟩ | ⟨z1, z2, z3, z4⟩
    · clear hbad
      go_wp2_with fail
      go_quiet (fail)
      generalize hwd : wc.drewN nq = wd
      have hkd : Hid (Kept w wd) := by
        subst hwd
        exact hk2'.out.trans ⟨⟨rfl, rfl, rfl, Nat.le_refl _, fun _ _ => rfl⟩, fun _ => rfl⟩
      have hFd : Hid (F.answers wd.tape) := by subst hwd; exact hF2.out
      have x0 : wd.cell? ⟨bl, 0, none⟩ = some (.int .i64 C) := by subst hwd; exact x0
      have u0 : wd.cell? ⟨b11, 0, none⟩ = some (.int .u64 h1) := by subst hwd; exact u0
      have u1 : wd.cell? ⟨b11, 1, none⟩ = some (.int .u64 l1) := by subst hwd; exact u1
      have v0 : wd.cell? ⟨b12, 0, none⟩ = some (.int .u64 h2) := by subst hwd; exact v0
      have v1 : wd.cell? ⟨b12, 1, none⟩ = some (.int .u64 l2) := by subst hwd; exact v1
      have n0 : bl < wd.heap.size := by subst hwd; exact hlx
      have n11 : b11 < wd.heap.size := by subst hwd; exact n11
      have n12 : b12 < wd.heap.size := by subst hwd; exact n12
      clear hwd
      rename_i x0' u0' u1' v0' v1' n11' n12'
      clear hk2' hF2 x1 y0 y1
      go_wp2_with fail
      go_region_held3 (fun w' => w'.cell? ⟨bl, 0, none⟩ = some (.int .i64 C) ∧ w'.cell? ⟨b11, 0, none⟩ = some (.int .u64 h1) ∧ w'.cell? ⟨b11, 1, none⟩ = some (.int .u64 l1) ∧ w'.cell? ⟨b12, 0, none⟩ = some (.int .u64 h2) ∧ w'.cell? ⟨b12, 1, none⟩ = some (.int .u64 l2)) (simp [go_sem, *])
        ((go_at_call 21; refine (errorf_counts F wd.heap.size h1 l1 h2 l2 C _ ?_ ?_ ?_ ?_ ?_).mono ?_; (· exact hFd.out); (· simp); (· simp [go_sem]); (· simp [go_sem]); (· simp [go_sem]); rintro e w2 ⟨⟨x, rfl⟩, hk5⟩; have hc5 := hk5.cells))
      go_wp2
      go_ret2
      exact ⟨⟨_, rfl⟩, (hkd.out.alloc _ _).drew.trans hk5⟩
    · clear hbad
      go_wp2_with fail
      go_quiet (fail)
      generalize hwd : wc.drewN nq = wd
      have hkd : Hid (Kept w wd) := by
        subst hwd
        exact hk2'.out.trans ⟨⟨rfl, rfl, rfl, Nat.le_refl _, fun _ _ => rfl⟩, fun _ => rfl⟩
      have hFd : Hid (F.answers wd.tape) := by subst hwd; exact hF2.out
      have x0 : wd.cell? ⟨bl, 0, none⟩ = some (.int .i64 C) := by subst hwd; exact x0
      have u0 : wd.cell? ⟨b11, 0, none⟩ = some (.int .u64 h1) := by subst hwd; exact u0
      have u1 : wd.cell? ⟨b11, 1, none⟩ = some (.int .u64 l1) := by subst hwd; exact u1
      have v0 : wd.cell? ⟨b12, 0, none⟩ = some (.int .u64 h2) := by subst hwd; exact v0
      have v1 : wd.cell? ⟨b12, 1, none⟩ = some (.int .u64 l2) := by subst hwd; exact v1
      have n0 : bl < wd.heap.size := by subst hwd; exact hlx
      have n11 : b11 < wd.heap.size := by subst hwd; exact n11
      have n12 : b12 < wd.heap.size := by subst hwd; exact n12
      clear hwd
      rename_i x0' u0' u1' v0' v1' n11' n12'
      clear hk2' hF2 x1 y0 y1
      go_wp2_with fail
      go_region_held3 (fun w' => w'.cell? ⟨bl, 0, none⟩ = some (.int .i64 C) ∧ w'.cell? ⟨b11, 0, none⟩ = some (.int .u64 h1) ∧ w'.cell? ⟨b11, 1, none⟩ = some (.int .u64 l1) ∧ w'.cell? ⟨b12, 0, none⟩ = some (.int .u64 h2) ∧ w'.cell? ⟨b12, 1, none⟩ = some (.int .u64 l2)) (simp [go_sem, *])
        ((go_at_call 21; refine (errorf_counts F wd.heap.size h1 l1 h2 l2 C _ ?_ ?_ ?_ ?_ ?_).mono ?_; (· exact hFd.out); (· simp); (· simp [go_sem]); (· simp [go_sem]); (· simp [go_sem]); rintro e w2 ⟨⟨x, rfl⟩, hk5⟩; have hc5 := hk5.cells))
      go_wp2
      go_ret2
      exact ⟨⟨_, rfl⟩, (hkd.out.alloc _ _).drew.trans hk5⟩
    · clear hbad
      go_wp2_with fail
      go_quiet (fail)
      generalize hwd : wc.drewN nq = wd
      have hkd : Hid (Kept w wd) := by
        subst hwd
        exact hk2'.out.trans ⟨⟨rfl, rfl, rfl, Nat.le_refl _, fun _ _ => rfl⟩, fun _ => rfl⟩
      have hFd : Hid (F.answers wd.tape) := by subst hwd; exact hF2.out
      have x0 : wd.cell? ⟨bl, 0, none⟩ = some (.int .i64 C) := by subst hwd; exact x0
      have u0 : wd.cell? ⟨b11, 0, none⟩ = some (.int .u64 h1) := by subst hwd; exact u0
      have u1 : wd.cell? ⟨b11, 1, none⟩ = some (.int .u64 l1) := by subst hwd; exact u1
      have v0 : wd.cell? ⟨b12, 0, none⟩ = some (.int .u64 h2) := by subst hwd; exact v0
      have v1 : wd.cell? ⟨b12, 1, none⟩ = some (.int .u64 l2) := by subst hwd; exact v1
      have n0 : bl < wd.heap.size := by subst hwd; exact hlx
      have n11 : b11 < wd.heap.size := by subst hwd; exact n11
      have n12 : b12 < wd.heap.size := by subst hwd; exact n12
      clear hwd
      rename_i x0' u0' u1' v0' v1' n11' n12'
      clear hk2' hF2 x1 y0 y1
      go_wp2_with fail
      go_region_held3 (fun w' => w'.cell? ⟨bl, 0, none⟩ = some (.int .i64 C) ∧ w'.cell? ⟨b11, 0, none⟩ = some (.int .u64 h1) ∧ w'.cell? ⟨b11, 1, none⟩ = some (.int .u64 l1) ∧ w'.cell? ⟨b12, 0, none⟩ = some (.int .u64 h2) ∧ w'.cell? ⟨b12, 1, none⟩ = some (.int .u64 l2)) (simp [go_sem, *])
        ((go_at_call 21; refine (errorf_counts F wd.heap.size h1 l1 h2 l2 C _ ?_ ?_ ?_ ?_ ?_).mono ?_; (· exact hFd.out); (· simp); (· simp [go_sem]); (· simp [go_sem]); (· simp [go_sem]); rintro e w2 ⟨⟨x, rfl⟩, hk5⟩; have hc5 := hk5.cells))
      go_wp2
      go_ret2
      exact ⟨⟨_, rfl⟩, (hkd.out.alloc _ _).drew.trans hk5⟩
    · clear hbad
      go_wp2_with fail
      go_quiet (fail)
      generalize hwd : wc.drewN nq = wd
      have hkd : Hid (Kept w wd) := by
        subst hwd
        exact hk2'.out.trans ⟨⟨rfl, rfl, rfl, Nat.le_refl _, fun _ _ => rfl⟩, fun _ => rfl⟩
      have hFd : Hid (F.answers wd.tape) := by subst hwd; exact hF2.out
      have x0 : wd.cell? ⟨bl, 0, none⟩ = some (.int .i64 C) := by subst hwd; exact x0
      have u0 : wd.cell? ⟨b11, 0, none⟩ = some (.int .u64 h1) := by subst hwd; exact u0
      have u1 : wd.cell? ⟨b11, 1, none⟩ = some (.int .u64 l1) := by subst hwd; exact u1
      have v0 : wd.cell? ⟨b12, 0, none⟩ = some (.int .u64 h2) := by subst hwd; exact v0
      have v1 : wd.cell? ⟨b12, 1, none⟩ = some (.int .u64 l2) := by subst hwd; exact v1
      have n0 : bl < wd.heap.size := by subst hwd; exact hlx
      have n11 : b11 < wd.heap.size := by subst hwd; exact n11
      have n12 : b12 < wd.heap.size := by subst hwd; exact n12
      clear hwd
      rename_i x0' u0' u1' v0' v1' n11' n12'
      clear hk2' hF2 x1 y0 y1
      go_wp2_with fail
      go_region_held3 (fun w' => w'.cell? ⟨bl, 0, none⟩ = some (.int .i64 C) ∧ w'.cell? ⟨b11, 0, none⟩ = some (.int .u64 h1) ∧ w'.cell? ⟨b11, 1, none⟩ = some (.int .u64 l1) ∧ w'.cell? ⟨b12, 0, none⟩ = some (.int .u64 h2) ∧ w'.cell? ⟨b12, 1, none⟩ = some (.int .u64 l2)) (simp [go_sem, *])
        ((go_at_call 21; refine (errorf_counts F wd.heap.size h1 l1 h2 l2 C _ ?_ ?_ ?_ ?_ ?_).mono ?_; (· exact hFd.out); (· simp); (· simp [go_sem]); (· simp [go_sem]); (· simp [go_sem]); rintro e w2 ⟨⟨x, rfl⟩, hk5⟩; have hc5 := hk5.cells))
      go_wp2
      go_ret2
      exact ⟨⟨_, rfl⟩, (hkd.out.alloc _ _).drew.trans hk5⟩
end Go.Proofs.Qxb6609109aFmt
