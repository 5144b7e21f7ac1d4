import Derived.Test.Qxb6609109aFmtExpect
set_option linter.unusedVariables false
namespace Go.Proofs.Qxb6609109aFmt
open Go.RowKit Go.Extern.Stop Go.Stop Go.Extern

set_option maxHeartbeats 400000 in
theorem bytes11_any (x y z : Value) (a1 a2 : Option Addr) (n1 n2 c1 c2 : Nat) (w : World) (m1 : n1 ≤ maxLen) (m2 : n2 ≤ maxLen) :
    Calls Tryf.prog 11 #[x, y, .slice a1 n1 c1, .slice a2 n2 c2, z] w fun e w' => (∃ b, e = .returned (.bool b)) ∧ w' = w := by
  unfold maxLen at m1 m2
  go_enter Tryf.func11, Tryf.ntmps11
  go_wp2
  all_goals (go_ret; exact ⟨⟨_, rfl⟩, rfl⟩)
set_option maxHeartbeats 400000 in
theorem bytes11_ok (x y z : Value) (a1 a2 : Option Addr) (n1 n2 c1 c2 : Nat) (w : World) (m1 : n1 ≤ 4096) (m2 : n2 ≤ 4096) :
    Calls Tryf.prog 11 #[x, y, .slice a1 n1 c1, .slice a2 n2 c2, z] w fun e w' => e = .returned (.bool true) ∧ w' = w := by
  go_enter Tryf.func11, Tryf.ntmps11
  go_wp2
  go_ret
  exact ⟨rfl, rfl⟩

set_option maxRecDepth 100000 in
set_option maxHeartbeats 400000 in
theorem law4_early (C P now : Int) (a1 a2 : Option Addr) (n1 n2 c1 c2 : Nat) (w : World) (m1 : n1 ≤ maxLen) (m2 : n2 ≤ maxLen)
    (h : 4096 < n1 ∨ (n1 ≤ 4096 ∧ 4096 < n2) ∨ (n1 ≤ 4096 ∧ n2 ≤ 4096 ∧ C < 1) ∨ (n1 ≤ 4096 ∧ n2 ≤ 4096 ∧ 1 ≤ C ∧ P < 1) ∨ (n1 ≤ 4096 ∧ n2 ≤ 4096 ∧ 1 ≤ C ∧ 1 ≤ P ∧ ((n1 : Int) != n2) = true)) :
    Calls Tryf.prog 4 #[.int .i64 C, .int .i64 P, .slice a1 n1 c1, .slice a2 n2 c2, .int .i64 now] w fun e w' => e = .returned (.bool true) ∧ Kept w w' := by
  have HB : Hid (Calls Tryf.prog 11 #[.int .i64 C, .int .i64 P, .slice a1 n1 c1, .slice a2 n2 c2, .int .i64 now] w fun e w' => (∃ b, e = .returned (.bool b)) ∧ w' = w) := bytes11_any _ _ _ a1 a2 n1 n2 c1 c2 w m1 m2
  unfold maxLen at m1 m2
  rcases h with h | ⟨h, h'⟩ | ⟨h, h', h3⟩ | ⟨h, h', h3, h4⟩ | ⟨h, h', h3, h4, h5⟩
  all_goals
    go_enter Tryf.func4, Tryf.ntmps4
    go_wp2_with fail
    refine HB.out.mono ?_
    rintro e w0 ⟨⟨b, rfl⟩, rfl⟩
    cases b
    · go_wp2
      go_ret
      exact ⟨rfl, Kept.refl _⟩
    · go_wp2
      go_ret
      exact ⟨rfl, Kept.refl _⟩

set_option maxRecDepth 100000 in
set_option maxHeartbeats 1000000 in
theorem law4_bad (w : World) (C P now : Int) (a1 a2 : Option Addr) (n c1 c2 : Nat) (Q : World → Nat → Prop) (C0 : 1 ≤ C) (P0 : 1 ≤ P) (n1 : n ≤ 4096)
    (HB : Hid (BytesOk w 11 #[.int .i64 C, .int .i64 P, .slice a1 n c1, .slice a2 n c2, .int .i64 now]))
    (HW : Hid (MakesWords w (.slice a1 n c1) (.slice a2 n c2) n Q)) (R1 : Hid (ReadsBad w C P now n Q))
    (A1 : Hid (Accepts w (.slice a1 n c1) (.slice a2 n c2) C false)) :
    Calls Tryf.prog 4 #[.int .i64 C, .int .i64 P, .slice a1 n c1, .slice a2 n c2, .int .i64 now] w fun e w' => e = .returned (.bool true) ∧ Kept w w' := by
  have hn : (n : Int) ≤ 4096 := by omega
  go_enter Tryf.func4, Tryf.ntmps4
  go_wp2_with fail
  refine HB.out.mono ?_
  rintro e w0 ⟨rfl, rfl⟩
  go_wp2_with fail
  refine (zzlimit_any C P _).mono ?_
  rintro e w1 ⟨rfl, k1⟩
  have K2 : Hid (Kept w0 (w1.alloc (.cells #[.int .i64 C, .int .i64 P] 25))) := k1.alloc _ _
  have L2 : Hid (Lim (w1.alloc (.cells #[.int .i64 C, .int .i64 P] 25)) w1.heap.size C P) := Lim.mk' w1 C P
  clear k1
  go_wp2_with fail
  refine (HW.out _ K2.out).mono ?_
  rintro e w3 ⟨rfl, k3, _, _, q3⟩
  have q3' : Hid (Q w3 (w1.heap.size + 1)) := (show Q w3 (w1.heap.size + 1) from by simpa using q3)
  have K3 : Hid (Kept w0 w3) := K2.out.trans k3
  have l1 : Hid (Lim w3 w1.heap.size C P) := L2.out.kept k3
  clear q3 k3 L2 K2
  go_wp2_with fail
  refine (R1.out w3 w1.heap.size (w1.heap.size + 1) K3.out l1.out q3'.out).mono ?_
  rintro e w4 ⟨⟨x1, rfl⟩, k4⟩
  have K4 : Hid (Kept w0 w4) := K3.out.trans k4
  clear K3 l1 q3' k4
  go_wp2_with fail
  refine (A1.out w4 K4.out).mono ?_
  rintro e w5 ⟨rfl, k5⟩
  have K5 : Hid (Kept w0 w5) := K4.out.trans k5
  clear k5 K4
  go_wp2
  go_ret
  exact ⟨rfl, K5.out⟩

set_option maxRecDepth 100000 in
set_option maxHeartbeats 1000000 in
theorem law4_good (w : World) (C P now : Int) (b1 o1 b2 o2 c1 c2 : Nat) (Q : World → Nat → Prop) (C0 : 1 ≤ C) (P0 : 1 ≤ P) (P1 : P ≤ 9223372036854775807) (hb2 : b2 < w.heap.size) (l0 l1 l2 W0 c p : Int)
    (HB : Hid (BytesOk w 11 #[.int .i64 C, .int .i64 P, .slice (some ⟨b1, o1, none⟩) 3 c1, .slice (some ⟨b2, o2, none⟩) 3 c2, .int .i64 now]))
    (HW : Hid (MakesWords w (.slice (some ⟨b1, o1, none⟩) 3 c1) (.slice (some ⟨b2, o2, none⟩) 3 c2) 3 Q))
    (A L r1 r2 : Int) (r3 : Bool) (R1 : Hid (ReadsGood w C P now 3 Q A L r1 r2 r3))
    (A1 : Hid (Accepts w (.slice (some ⟨b1, o1, none⟩) 3 c1) (.slice (some ⟨b2, o2, none⟩) 3 c2) C true))
    (t0 : w.cell? ⟨b2, o2, none⟩ = some (.int .u64 l0)) (t1 : w.cell? ⟨b2, o2 + 1, none⟩ = some (.int .u64 l1)) (t2 : w.cell? ⟨b2, o2 + 2, none⟩ = some (.int .u64 l2))
    (g0 : IntKind.i64.wrap l0 = W0) (g1 : IntKind.i64.wrap l1 = c) (g2 : IntKind.i64.wrap l2 = p)
    (HX : Hid (∀ W, Calls Tryf.prog 15 #[.int .i64 P, .int .i64 W0, .int .i64 c, .int .i64 p, .int .i64 now] W fun e w' => e = .returned (.tuple #[.int .i64 A, .int .i64 L, .int .i64 r1, .int .i64 r2, .bool r3]) ∧ w' = W))
    (hstop : (W0 == 9223372036854775807) = true ∨ ((W0 == 9223372036854775807) = false ∧ 9223372036854775807 - P < now)) :
    Calls Tryf.prog 4 #[.int .i64 C, .int .i64 P, .slice (some ⟨b1, o1, none⟩) 3 c1, .slice (some ⟨b2, o2, none⟩) 3 c2, .int .i64 now] w fun e w' => e = .returned (.bool true) ∧ Kept w w' := by
  go_enter Tryf.func4, Tryf.ntmps4
  go_wp2_with fail
  refine HB.out.mono ?_
  rintro e w0 ⟨rfl, rfl⟩
  go_wp2_with fail
  refine (zzlimit_any C P _).mono ?_
  rintro e w1 ⟨rfl, k1⟩
  have K2 : Hid (Kept w0 (w1.alloc (.cells #[.int .i64 C, .int .i64 P] 25))) := k1.alloc _ _
  have L2 : Hid (Lim (w1.alloc (.cells #[.int .i64 C, .int .i64 P] 25)) w1.heap.size C P) := Lim.mk' w1 C P
  clear k1
  go_wp2_with fail
  refine (HW.out _ K2.out).mono ?_
  rintro e w3 ⟨rfl, k3, _, _, q3⟩
  have q3' : Hid (Q w3 (w1.heap.size + 1)) := (show Q w3 (w1.heap.size + 1) from by simpa using q3)
  have K3 : Hid (Kept w0 w3) := K2.out.trans k3
  have l1 : Hid (Lim w3 w1.heap.size C P) := L2.out.kept k3
  clear q3 k3 L2 K2
  go_wp2_with fail
  refine (R1.out w3 w1.heap.size (w1.heap.size + 1) K3.out l1.out q3'.out).mono ?_
  rintro e w4 ⟨bm, bw, rfl, k4, m4⟩
  have M4 : Hid (Mt w4 bm (.pointer (some ⟨bw, 0, none⟩)) (.int .i64 now) (.int .i64 A) (.int .i64 L) (.int .i64 r1) (.int .i64 r2) (.bool r3)) := m4
  have K4 : Hid (Kept w0 w4) := K3.out.trans k4
  have l4 : Hid (Lim w4 w1.heap.size C P) := l1.out.kept k4
  clear K3 l1 q3' k4 m4
  go_wp2_with fail
  refine (A1.out w4 K4.out).mono ?_
  rintro e w5 ⟨rfl, k5⟩
  have K5 : Hid (Kept w0 w5) := K4.out.trans k5
  have M5 : Hid (Mt w5 bm (.pointer (some ⟨bw, 0, none⟩)) (.int .i64 now) (.int .i64 A) (.int .i64 L) (.int .i64 r1) (.int .i64 r2) (.bool r3)) := M4.out.kept k5
  have l5 : Hid (Lim w5 w1.heap.size C P) := l4.out.kept k5
  have s0 : w5.cell? ⟨b2, o2, none⟩ = some (.int .u64 l0) := (K5.out.cells _ _ hb2).trans t0
  have s1 : w5.cell? ⟨b2, o2 + 1, none⟩ = some (.int .u64 l1) := (K5.out.cells _ _ hb2).trans t1
  have s2 : w5.cell? ⟨b2, o2 + 2, none⟩ = some (.int .u64 l2) := (K5.out.cells _ _ hb2).trans t2
  clear k5 K4 l4 M4
  go_wp2_with fail
  refine (meterPlace_any bm _ now A L r1 r2 r3 w5 M5.out).mono ?_
  rintro e w6 ⟨rfl, k6⟩
  have K6 : Hid (Kept w0 w6) := K5.out.trans k6
  have l6 : Hid (Lim w6 w1.heap.size C P) := l5.out.kept k6
  clear k6 K5 l5 M5 s0 s1 s2
  go_wp2_with fail
  refine (HX.out _).mono ?_
  rintro e w7 ⟨rfl, rfl⟩
  rcases hstop with hs | ⟨hs, hs'⟩
  · go_wp2
    go_ret
    exact ⟨rfl, K6.out⟩
  · go_wp2
    go_ret
    exact ⟨rfl, K6.out⟩

theorem Lim.set {w : World} {b g : Nat} {C P : Int} (h : Lim w b C P) (hg : b ≠ g) (i : Nat) (v : Value) : Lim (w.setCell ⟨g, i, none⟩ v) b C P :=
  ⟨by have := h.hb; simpa [World.setCell] using this, (World.cell?_of_block (w := w) (Below.heap_setCell w ⟨g, i, none⟩ v b hg)).trans h.e0, (World.cell?_of_block (w := w) (Below.heap_setCell w ⟨g, i, none⟩ v b hg)).trans h.e1⟩
theorem Wds.set {w : World} {g : Nat} {h0 l0 h1 l1 h2 l2 : Int} (h : Wds w g h0 l0 h1 l1 h2 l2) (a b : Int) : Wds ((w.setCell ⟨g, 0, none⟩ (.int .u64 a)).setCell ⟨g, 1, none⟩ (.int .u64 b)) g a b h1 l1 h2 l2 := by
  refine ⟨by have := h.hb; simpa [World.setCell] using this, ?_, ?_, ?_, ?_, ?_, ?_⟩
  · rw [set_other _ _ _ _ _ (by omega)]; exact set_same _ _ _ _ _ h.s0
  · refine set_same _ _ _ _ (.int .u64 l0) ?_
    rw [set_other _ _ _ _ _ (by omega)]; exact h.s1
  · rw [set_other _ _ _ _ _ (by omega), set_other _ _ _ _ _ (by omega)]; exact h.s2
  · rw [set_other _ _ _ _ _ (by omega), set_other _ _ _ _ _ (by omega)]; exact h.s3
  · rw [set_other _ _ _ _ _ (by omega), set_other _ _ _ _ _ (by omega)]; exact h.s4
  · rw [set_other _ _ _ _ _ (by omega), set_other _ _ _ _ _ (by omega)]; exact h.s5

set_option maxRecDepth 100000 in
set_option maxHeartbeats 1000000 in
theorem law4_shift (w : World) (C P now : Int) (b1 o1 b2 o2 c1 c2 : Nat) (C0 : 1 ≤ C) (P0 : 1 ≤ P) (P1 : P ≤ 9223372036854775807) (hb2 : b2 < w.heap.size) (h0 h1 h2 h0' l0' l0 l1 l2 W0 c p : Int)
    (HB : Hid (BytesOk w 11 #[.int .i64 C, .int .i64 P, .slice (some ⟨b1, o1, none⟩) 3 c1, .slice (some ⟨b2, o2, none⟩) 3 c2, .int .i64 now]))
    (HW : Hid (MakesWords w (.slice (some ⟨b1, o1, none⟩) 3 c1) (.slice (some ⟨b2, o2, none⟩) 3 c2) 3 (Q3 3 h0 l0 h1 l1 h2 l2)))
    (A L r1 r2 : Int) (r3 : Bool) (R1 : Hid (ReadsGood w C P now 3 (Q3 3 h0 l0 h1 l1 h2 l2) A L r1 r2 r3))
    (A1 : Hid (Accepts w (.slice (some ⟨b1, o1, none⟩) 3 c1) (.slice (some ⟨b2, o2, none⟩) 3 c2) C true))
    (t0 : w.cell? ⟨b2, o2, none⟩ = some (.int .u64 l0)) (t1 : w.cell? ⟨b2, o2 + 1, none⟩ = some (.int .u64 l1)) (t2 : w.cell? ⟨b2, o2 + 2, none⟩ = some (.int .u64 l2))
    (g0 : IntKind.i64.wrap l0 = W0) (g1 : IntKind.i64.wrap l1 = c) (g2 : IntKind.i64.wrap l2 = p)
    (HX : Hid (∀ W, Calls Tryf.prog 15 #[.int .i64 P, .int .i64 W0, .int .i64 c, .int .i64 p, .int .i64 now] W fun e w' => e = .returned (.tuple #[.int .i64 A, .int .i64 L, .int .i64 r1, .int .i64 r2, .bool r3]) ∧ w' = W))
    (hs : (W0 == 9223372036854775807) = false) (hs' : now ≤ 9223372036854775807 - P) (ns : -9223372036854775808 ≤ now) (ws : -9223372036854775808 ≤ W0) (ws' : W0 + 1 ≤ 9223372036854775807)
    (HS : Hid (∀ W, Calls Tryf.prog 8 #[.int .i64 (W0 + 1)] W fun e w' => e = .returned (.tuple #[.int .u64 h0', .int .u64 l0']) ∧ w' = W))
    (a1 : -9223372036854775808 ≤ A) (a2 : A + 1 ≤ 9223372036854775807)
    (R2 : Hid (ReadsGood w C P (now + P) 3 (Q3 3 h0' l0' h1 l1 h2 l2) (A + 1) L r1 r2 r3)) :
    Calls Tryf.prog 4 #[.int .i64 C, .int .i64 P, .slice (some ⟨b1, o1, none⟩) 3 c1, .slice (some ⟨b2, o2, none⟩) 3 c2, .int .i64 now] w fun e w' => e = .returned (.bool true) ∧ Kept w w' := by
  go_enter Tryf.func4, Tryf.ntmps4
  go_wp2_with fail
  refine HB.out.mono ?_
  rintro e w0 ⟨rfl, rfl⟩
  go_wp2_with fail
  refine (zzlimit_any C P _).mono ?_
  rintro e w1 ⟨rfl, k1⟩
  have K2 : Hid (Kept w0 (w1.alloc (.cells #[.int .i64 C, .int .i64 P] 25))) := k1.alloc _ _
  have L2 : Hid (Lim (w1.alloc (.cells #[.int .i64 C, .int .i64 P] 25)) w1.heap.size C P) := Lim.mk' w1 C P
  clear k1
  go_wp2_with fail
  refine (HW.out _ K2.out).mono ?_
  rintro e w3 ⟨rfl, k3, _, _, q3⟩
  have q3' : Hid (Q3 3 h0 l0 h1 l1 h2 l2 w3 (w1.heap.size + 1)) := (show Q3 3 h0 l0 h1 l1 h2 l2 w3 (w1.heap.size + 1) from by simpa using q3)
  have K3 : Hid (Kept w0 w3) := K2.out.trans k3
  have lm1 : Hid (Lim w3 w1.heap.size C P) := L2.out.kept k3
  clear q3 k3 L2 K2
  go_wp2_with fail
  refine (R1.out w3 w1.heap.size (w1.heap.size + 1) K3.out lm1.out q3'.out).mono ?_
  rintro e w4 ⟨bm, bw, rfl, k4, m4⟩
  have M4 : Hid (Mt w4 bm (.pointer (some ⟨bw, 0, none⟩)) (.int .i64 now) (.int .i64 A) (.int .i64 L) (.int .i64 r1) (.int .i64 r2) (.bool r3)) := m4
  have K4 : Hid (Kept w0 w4) := K3.out.trans k4
  have l4 : Hid (Lim w4 w1.heap.size C P) := lm1.out.kept k4
  clear K3 lm1 q3' k4 m4
  go_wp2_with fail
  refine (A1.out w4 K4.out).mono ?_
  rintro e w5 ⟨rfl, k5⟩
  have K5 : Hid (Kept w0 w5) := K4.out.trans k5
  have M5 : Hid (Mt w5 bm (.pointer (some ⟨bw, 0, none⟩)) (.int .i64 now) (.int .i64 A) (.int .i64 L) (.int .i64 r1) (.int .i64 r2) (.bool r3)) := M4.out.kept k5
  have l5 : Hid (Lim w5 w1.heap.size C P) := l4.out.kept k5
  have s0 : w5.cell? ⟨b2, o2, none⟩ = some (.int .u64 l0) := (K5.out.cells _ _ hb2).trans t0
  have s1 : w5.cell? ⟨b2, o2 + 1, none⟩ = some (.int .u64 l1) := (K5.out.cells _ _ hb2).trans t1
  have s2 : w5.cell? ⟨b2, o2 + 2, none⟩ = some (.int .u64 l2) := (K5.out.cells _ _ hb2).trans t2
  clear k5 K4 l4 M4
  go_wp2_with fail
  refine (meterPlace_any bm _ now A L r1 r2 r3 w5 M5.out).mono ?_
  rintro e w6 ⟨rfl, k6⟩
  have K6 : Hid (Kept w0 w6) := K5.out.trans k6
  have l6 : Hid (Lim w6 w1.heap.size C P) := l5.out.kept k6
  clear k6 K5 l5 M5 s0 s1 s2
  go_wp2_with fail
  refine (HX.out _).mono ?_
  rintro e w7 ⟨rfl, rfl⟩
  have g6 : w1.heap.size < w7.heap.size := l6.out.hb
  have g6' : w0.heap.size ≤ w7.heap.size := K6.out.below.size
  go_wp2_with fail
  refine (HW.out _ K6.out).mono ?_
  rintro e w8 ⟨rfl, k8, gs8, fr8, q8⟩
  have K8 : Hid (Kept w0 w8) := K6.out.trans k8
  have l8 : Hid (Lim w8 w1.heap.size C P) := l6.out.kept k8
  have F8 := fr8 0
  have F8' := fr8 1
  have q8' : Hid (Wds w8 w7.heap.size h0 l0 h1 l1 h2 l2) := q8 rfl
  obtain ⟨hb8, e0, e1, e2, e3, e4, e5⟩ := q8 rfl
  clear k8 q8 fr8 K6 l6 e2 e3 e4 e5
  go_wp2_with fail
  refine (HS.out _).mono ?_
  rintro e w9 ⟨rfl, rfl⟩
  have K9 : Hid (Kept w0 ((w9.setCell ⟨w7.heap.size, 0, none⟩ (.int .u64 h0')).setCell ⟨w7.heap.size, 1, none⟩ (.int .u64 l0'))) := (K8.out.setCell g6' _).setCell g6' _
  have l9 : Hid (Lim ((w9.setCell ⟨w7.heap.size, 0, none⟩ (.int .u64 h0')).setCell ⟨w7.heap.size, 1, none⟩ (.int .u64 l0')) w1.heap.size C P) := (l8.out.set (by omega) _ _).set (by omega) _ _
  have q9 : Hid (Wds ((w9.setCell ⟨w7.heap.size, 0, none⟩ (.int .u64 h0')).setCell ⟨w7.heap.size, 1, none⟩ (.int .u64 l0')) w7.heap.size h0' l0' h1 l1 h2 l2) := q8'.out.set h0' l0'
  clear l8 K8 q8'
  go_wp2_with fail
  refine (R2.out _ _ _ K9.out l9.out (fun _ => q9.out)).mono ?_
  rintro e w10 ⟨bm', bw', rfl, k10, m10⟩
  have M10 : Hid (Mt w10 bm' (.pointer (some ⟨bw', 0, none⟩)) (.int .i64 (now + P)) (.int .i64 (A + 1)) (.int .i64 L) (.int .i64 r1) (.int .i64 r2) (.bool r3)) := m10
  have K10 : Hid (Kept w0 w10) := K9.out.trans k10
  clear k10 m10 K9 l9 q9
  go_wp2_with fail
  refine (meterPlace_any bm' _ (now + P) (A + 1) L r1 r2 r3 w10 M10.out).mono ?_
  rintro e w11 ⟨rfl, k11⟩
  have K11 : Hid (Kept w0 w11) := K10.out.trans k11
  clear k11 K10 M10
  go_wp2
  go_ret
  exact ⟨rfl, K11.out⟩

theorem shift_div (now P : Int) (p0 : 1 ≤ P) : (now + P) / P = now / P + 1 := by
  have := Int.add_mul_ediv_right now 1 (show P ≠ 0 by omega)
  rwa [Int.one_mul] at this
theorem shift_mod (now P : Int) : (now + P) % P = now % P := Int.add_emod_right now P
theorem wi_shift {cw cc cp win r1 r2 : Int} {r3 : Bool} (h : WI cw cc cp win r1 r2 r3) : WI (cw + 1) cc cp (win + 1) r1 r2 r3 := by
  unfold WI at *
  rcases h with ⟨h, h'⟩ | ⟨h, h'⟩ | ⟨h, h'⟩ | ⟨h, h'⟩
  · exact .inl ⟨by omega, h'⟩
  · exact .inr (.inl ⟨by omega, h'⟩)
  · exact .inr (.inr (.inl ⟨by omega, h'⟩))
  · exact .inr (.inr (.inr ⟨by omega, h'⟩))

theorem law4_three (C P now : Int) (b1 o1 b2 o2 c1 c2 : Nat) (h0 l0 h1 l1 h2 l2 : Int) (w : World) (C0 : 1 ≤ C) (C1 : C ≤ 9223372036854775807) (P0 : 1 ≤ P) (P1 : P ≤ 9223372036854775807) (n1 : -9223372036854775808 ≤ now) (n2 : now ≤ 9223372036854775807)
    (hb2 : b2 < w.heap.size) (u0 : U h0) (v0 : U l0) (v1 : U l1) (v2 : U l2) (hg : Good C h0 l0 h1 l1 h2 l2)
    (HB : BytesOk w 11 #[.int .i64 C, .int .i64 P, .slice (some ⟨b1, o1, none⟩) 3 c1, .slice (some ⟨b2, o2, none⟩) 3 c2, .int .i64 now])
    (HW : MakesWords w (.slice (some ⟨b1, o1, none⟩) 3 c1) (.slice (some ⟨b2, o2, none⟩) 3 c2) 3 (Q3 3 h0 l0 h1 l1 h2 l2))
    (A1 : Accepts w (.slice (some ⟨b1, o1, none⟩) 3 c1) (.slice (some ⟨b2, o2, none⟩) 3 c2) C true)
    (t0 : w.cell? ⟨b2, o2, none⟩ = some (.int .u64 l0)) (t1 : w.cell? ⟨b2, o2 + 1, none⟩ = some (.int .u64 l1)) (t2 : w.cell? ⟨b2, o2 + 2, none⟩ = some (.int .u64 l2)) :
    Calls Tryf.prog 4 #[.int .i64 C, .int .i64 P, .slice (some ⟨b1, o1, none⟩) 3 c1, .slice (some ⟨b2, o2, none⟩) 3 c2, .int .i64 now] w fun e w' => e = .returned (.bool true) ∧ Kept w w' := by
  obtain ⟨r1, r2, r3, hwi⟩ := wi_some (sgn l0) l1 l2 (now / P)
  have hs := sgn_range l0 v0
  have hr := ediv_range now P P0 n1 (by omega)
  obtain ⟨g0, g1, g2, g3, g4⟩ := hg
  have w1 : IntKind.i64.wrap l1 = l1 := by rw [IntKind.wrap_i64]; have := v1.1; omega
  have w2 : IntKind.i64.wrap l2 = l2 := by rw [IntKind.wrap_i64]; have := v2.1; omega
  have R1 := reads_good (w := w) (C := C) (P := P) (now := now) ⟨g0, g1, g2, g3, g4⟩ u0 v0 v1 v2 C0 C1 P0 P1 n1 (by omega) r1 r2 r3 hwi
  have HX : Hid (∀ W, Calls Tryf.prog 15 #[.int .i64 P, .int .i64 (sgn l0), .int .i64 l1, .int .i64 l2, .int .i64 now] W fun e w' => e = .returned (.tuple #[.int .i64 (if r3 = true then sgn l0 else now / P), .int .i64 (if r3 = true then P else P - now % P), .int .i64 r1, .int .i64 r2, .bool r3]) ∧ w' = W) :=
    fun W => expect_any P (sgn l0) l1 l2 now r1 r2 r3 W P0 P1 n1 n2 hs.1 hs.2 hwi
  by_cases e1 : sgn l0 = 9223372036854775807
  · exact law4_good w C P now b1 o1 b2 o2 c1 c2 _ C0 P0 P1 hb2 l0 l1 l2 (sgn l0) l1 l2 HB HW _ _ r1 r2 r3 R1 A1 t0 t1 t2 (sgn_wrap l0 v0) w1 w2 HX (.inl (beq_iff_eq.2 e1))
  by_cases e2 : 9223372036854775807 - P < now
  · exact law4_good w C P now b1 o1 b2 o2 c1 c2 _ C0 P0 P1 hb2 l0 l1 l2 (sgn l0) l1 l2 HB HW _ _ r1 r2 r3 R1 A1 t0 t1 t2 (sgn_wrap l0 v0) w1 w2 HX (.inr ⟨beq_eq_false_iff_ne.2 e1, e2⟩)
  have q1 : -9223372036854775808 ≤ sgn l0 + 1 := by omega
  have q2 : sgn l0 + 1 ≤ 9223372036854775807 := by omega
  have hb := signed_back (sgn l0 + 1) q1 q2
  have hr2 := ediv_range (now + P) P P0 (by omega) (by omega)
  rw [shift_div now P P0] at hr2
  have R2 : ReadsGood w C P (now + P) 3 (Q3 3 (shi (sgn l0 + 1)) (slo (sgn l0 + 1)) h1 l1 h2 l2) ((if r3 = true then sgn l0 else now / P) + 1) (if r3 = true then P else P - now % P) r1 r2 r3 := by
    have := reads_good (w := w) (C := C) (P := P) (now := now + P) (h0 := shi (sgn l0 + 1)) (l0 := slo (sgn l0 + 1)) (h1 := h1) (h2 := h2) ⟨signed_fits _ q1 q2, g1, g2, g3, g4⟩ (shi_u _) (slo_u _ q1 q2) v1 v2 C0 C1 P0 P1 (by omega) (by omega) r1 r2 r3
      (by rw [hb, shift_div now P P0]; exact wi_shift hwi)
    rw [hb, shift_div now P P0, shift_mod] at this
    have e : (if r3 = true then sgn l0 else now / P) + 1 = if r3 = true then sgn l0 + 1 else now / P + 1 := by split <;> rfl
    rw [e]
    exact this
  exact law4_shift w C P now b1 o1 b2 o2 c1 c2 C0 P0 P1 hb2 h0 h1 h2 (shi (sgn l0 + 1)) (slo (sgn l0 + 1)) l0 l1 l2 (sgn l0) l1 l2 HB HW _ _ r1 r2 r3 R1 A1 t0 t1 t2 (sgn_wrap l0 v0) w1 w2 HX (beq_eq_false_iff_ne.2 e1) (by omega) n1 hs.1 q2
    (fun W => signed_any _ W q1 q2) (by split <;> omega) (by split <;> omega) R2

theorem law4_any (F : Interp) (C P now : Int) (a1 a2 : Option Addr) (n1 n2 c1 c2 : Nat) (z1 z2 : List Int) (w : World) (hF : F.answers w.tape) (w0 : (Lit.int .i64 C).wf = true) (w1 : (Lit.int .i64 P).wf = true) (w4 : (Lit.int .i64 now).wf = true)
    (h1 : IsRow .u64 w a1 n1 c1 z1) (h2 : IsRow .u64 w a2 n2 c2 z2) :
    Calls Tryf.prog 4 #[.int .i64 C, .int .i64 P, .slice a1 n1 c1, .slice a2 n2 c2, .int .i64 now] w fun e w' => e = .returned (.bool true) ∧ Kept w w' := by
  have b0 := bounds_i64 w0
  have b1 := bounds_i64 w1
  have b4 := bounds_i64 w4
  have m1 : n1 ≤ maxLen := by rcases h1 with ⟨_, rfl, _, _⟩ | ⟨_, _, _, _, _⟩ <;> omega
  have m2 : n2 ≤ maxLen := by rcases h2 with ⟨_, rfl, _, _⟩ | ⟨_, _, _, _, _⟩ <;> omega
  by_cases e1 : 4096 < n1
  · exact law4_early C P now a1 a2 n1 n2 c1 c2 w m1 m2 (.inl e1)
  by_cases e2 : 4096 < n2
  · exact law4_early C P now a1 a2 n1 n2 c1 c2 w m1 m2 (.inr (.inl ⟨by omega, e2⟩))
  by_cases e3 : C < 1
  · exact law4_early C P now a1 a2 n1 n2 c1 c2 w m1 m2 (.inr (.inr (.inl ⟨by omega, by omega, e3⟩)))
  by_cases e5 : P < 1
  · exact law4_early C P now a1 a2 n1 n2 c1 c2 w m1 m2 (.inr (.inr (.inr (.inl ⟨by omega, by omega, by omega, e5⟩))))
  by_cases e6 : n1 = n2
  · subst e6
    have hB : BytesOk w 11 #[.int .i64 C, .int .i64 P, .slice a1 n1 c1, .slice a2 n1 c2, .int .i64 now] := bytes11_ok _ _ _ a1 a2 n1 n1 c1 c2 w (by omega) (by omega)
    have hW := makes_words h1 h2 (by omega)
    by_cases h3 : n1 = 3
    · subst h3
      have A1y := fun hg => accepts_yes h1 h2 (C := C) (by omega) b0.2 hg
      have A1n := fun hb => accepts_no h1 h2 (C := C) (by omega) b0.2 hb
      obtain ⟨x1, o1, rfl, hb1, hc1⟩ := h1.opened (by omega)
      obtain ⟨x2, o2, rfl, hb2, hc2⟩ := h2.opened (by omega)
      have u0 := (hc1 0 (by omega)).2
      have v0 := (hc2 0 (by omega)).2
      have v1 := (hc2 1 (by omega)).2
      have v2 := (hc2 2 (by omega)).2
      by_cases g1 : Good C (z1.getD 0 0) (z2.getD 0 0) (z1.getD 1 0) (z2.getD 1 0) (z1.getD 2 0) (z2.getD 2 0)
      · exact law4_three C P now x1 o1 x2 o2 c1 c2 _ _ _ _ _ _ w (by omega) b0.2 (by omega) b1.2 b4.1 b4.2 hb2 u0 v0 v1 v2 g1 hB hW (A1y g1) (hc2 0 (by omega)).1 (hc2 1 (by omega)).1 (hc2 2 (by omega)).1
      · exact law4_bad w C P now _ _ 3 c1 c2 _ (by omega) (by omega) (by omega) hB hW (reads_bad F hF (.inr g1) u0 v0 v1 v2 (by omega) b0.2) (A1n (.inr g1))
    · by_cases hz : n1 = 0
      · subst hz
        refine law4_bad w C P now _ _ 0 c1 c2 _ (by omega) (by omega) (by omega) hB hW ?_ (accepts_no h1 h2 (by omega) b0.2 (.inl h3))
        intro W bl g hk hl hq
        exact zzread_len F ⟨bl, 0, none⟩ (some ⟨g, 0, none⟩) 0 0 now W (answers_kept hF hk) h3
      · refine law4_bad w C P now _ _ n1 c1 c2 _ (by omega) (by omega) (by omega) hB hW ?_ (accepts_no h1 h2 (by omega) b0.2 (.inl h3))
        intro W bl g hk hl hq
        exact zzread_len F ⟨bl, 0, none⟩ (some ⟨g, 0, none⟩) n1 n1 now W (answers_kept hF hk) h3
  · exact law4_early C P now a1 a2 n1 n2 c1 c2 w m1 m2 (.inr (.inr (.inr (.inr ⟨by omega, by omega, by omega, by omega, by rw [bne_iff_ne]; omega⟩))))
end Go.Proofs.Qxb6609109aFmt
