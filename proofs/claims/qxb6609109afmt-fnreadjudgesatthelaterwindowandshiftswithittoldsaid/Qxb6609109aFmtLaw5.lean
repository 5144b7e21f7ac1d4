import Derived.Test.Qxb6609109aFmtAccepts
set_option linter.unusedVariables false
namespace Go.Proofs.Qxb6609109aFmt
open Go.RowKit Go.Extern.Stop Go.Stop Go.Extern

set_option maxHeartbeats 400000 in
theorem zzlimit_any (n d : Int) (w : World) :
    Calls Tryf.prog 12 #[.int .i64 n, .int .i64 d] w fun e w' => e = .returned (.agg #[.int .i64 n, .int .i64 d]) ∧ Kept w w' := by
  go_enter Tryf.func12, Tryf.ntmps12
  go_wp2
  refine bodyPost_ret (v := .agg #[.int .i64 n, .int .i64 d]) ?_ rfl ⟨rfl, (Kept.refl w).alloc _ _⟩
  simp [results, Tryf.results12, go_sem]

/-- A limit in block b. -/
structure Lim (w : World) (b : Nat) (C P : Int) : Prop where
  hb : b < w.heap.size
  e0 : w.cell? ⟨b, 0, none⟩ = some (.int .i64 C)
  e1 : w.cell? ⟨b, 1, none⟩ = some (.int .i64 P)
theorem Lim.kept {w w' : World} {b : Nat} {C P : Int} (h : Lim w b C P) (hk : Kept w w') : Lim w' b C P :=
  ⟨Nat.lt_of_lt_of_le h.hb hk.below.size, (hk.cells _ _ h.hb).trans h.e0, (hk.cells _ _ h.hb).trans h.e1⟩
theorem Lim.mk' (w : World) (C P : Int) : Lim (w.alloc (.cells #[.int .i64 C, .int .i64 P] 25)) w.heap.size C P :=
  ⟨by simp, by simp [go_sem], by simp [go_sem]⟩

/-- Three words in block g, the slice's own. -/
structure Wds (w : World) (g : Nat) (h0 l0 h1 l1 h2 l2 : Int) : Prop where
  hb : g < w.heap.size
  s0 : w.cell? ⟨g, 0, none⟩ = some (.int .u64 h0)
  s1 : w.cell? ⟨g, 1, none⟩ = some (.int .u64 l0)
  s2 : w.cell? ⟨g, 2, none⟩ = some (.int .u64 h1)
  s3 : w.cell? ⟨g, 3, none⟩ = some (.int .u64 l1)
  s4 : w.cell? ⟨g, 4, none⟩ = some (.int .u64 h2)
  s5 : w.cell? ⟨g, 5, none⟩ = some (.int .u64 l2)
theorem Wds.kept {w w' : World} {g : Nat} {h0 l0 h1 l1 h2 l2 : Int} (h : Wds w g h0 l0 h1 l1 h2 l2) (hk : Kept w w') : Wds w' g h0 l0 h1 l1 h2 l2 := by
  have hc := hk.cells
  exact ⟨Nat.lt_of_lt_of_le h.hb hk.below.size, (hc _ _ h.hb).trans h.s0, (hc _ _ h.hb).trans h.s1, (hc _ _ h.hb).trans h.s2, (hc _ _ h.hb).trans h.s3, (hc _ _ h.hb).trans h.s4, (hc _ _ h.hb).trans h.s5⟩

/-- The contracts that the two laws over slices meet, at whatever world the call began in (w) has grown into. -/
def MakesWords (w : World) (v1 v2 : Value) (n : Nat) (Q : World → Nat → Prop) : Prop :=
  ∀ W, Kept w W → Calls Tryf.prog 13 #[v1, v2] W fun e w' => e = .returned (.slice (some ⟨W.heap.size, 0, none⟩) n n) ∧ Kept W w' ∧ W.heap.size < w'.heap.size ∧ (∀ i, w'.frozen? ⟨W.heap.size, i, none⟩ = false) ∧ Q w' W.heap.size
def ReadsBad (w : World) (C P now : Int) (n : Nat) (Q : World → Nat → Prop) : Prop :=
  ∀ W bl g, Kept w W → Lim W bl C P → Q W g → Calls Tryf.prog 9 #[.pointer (some ⟨bl, 0, none⟩), .slice (some ⟨g, 0, none⟩) n n, .int .i64 now] W fun e w' => (∃ x, e = .returned (.tuple #[.pointer none, .iface 80 x])) ∧ Kept W w'
def ReadsGood (w : World) (C P now : Int) (n : Nat) (Q : World → Nat → Prop) (A L r1 r2 : Int) (r3 : Bool) : Prop :=
  ∀ W bl g, Kept w W → Lim W bl C P → Q W g → Calls Tryf.prog 9 #[.pointer (some ⟨bl, 0, none⟩), .slice (some ⟨g, 0, none⟩) n n, .int .i64 now] W fun e w' => ∃ bm bw : Nat, e = .returned (.tuple #[.pointer (some ⟨bm, 0, none⟩), .nilIface]) ∧ Kept W w' ∧ Mt w' bm (.pointer (some ⟨bw, 0, none⟩)) (.int .i64 now) (.int .i64 A) (.int .i64 L) (.int .i64 r1) (.int .i64 r2) (.bool r3)
def Accepts (w : World) (v1 v2 : Value) (C : Int) (r : Bool) : Prop :=
  ∀ W, Kept w W → Calls Tryf.prog 14 #[.int .i64 C, v1, v2] W fun e w' => e = .returned (.bool r) ∧ Kept W w'
def BytesOk (w : World) (f : Nat) (args : Array Value) : Prop := Calls Tryf.prog f args w fun e w' => e = .returned (.bool true) ∧ w' = w

set_option maxRecDepth 100000 in
set_option maxHeartbeats 1000000 in
theorem law5_bb (w : World) (C1 C2 P now : Int) (a1 a2 : Option Addr) (n c1 c2 : Nat) (Q : World → Nat → Prop) (C10 : 1 ≤ C1) (C20 : 1 ≤ C2) (P0 : 1 ≤ P) (n1 : n ≤ 4096)
    (HB : Hid (BytesOk w 16 #[.int .i64 C1, .int .i64 C2, .int .i64 P, .slice a1 n c1, .slice a2 n c2, .int .i64 now]))
    (HW : Hid (MakesWords w (.slice a1 n c1) (.slice a2 n c2) n Q)) (R1 : Hid (ReadsBad w C1 P now n Q)) (R2 : Hid (ReadsBad w C2 P now n Q))
    (A1 : Hid (Accepts w (.slice a1 n c1) (.slice a2 n c2) C1 false)) (A2 : Hid (Accepts w (.slice a1 n c1) (.slice a2 n c2) C2 false)) :
    Calls Tryf.prog 5 #[.int .i64 C1, .int .i64 C2, .int .i64 P, .slice a1 n c1, .slice a2 n c2, .int .i64 now] w fun e w' => e = .returned (.bool true) ∧ Kept w w' := by
  have hn : (n : Int) ≤ 4096 := by omega
  go_enter Tryf.func5, Tryf.ntmps5
  go_wp2_with fail
  refine HB.out.mono ?_
  rintro e w0 ⟨rfl, rfl⟩
  go_wp2_with fail
  refine (zzlimit_any C1 P _).mono ?_
  rintro e w1 ⟨rfl, k1⟩
  go_wp2_with fail
  refine (zzlimit_any C2 P _).mono ?_
  rintro e w2 ⟨rfl, k2⟩
  have L1 : Hid (Lim w2 w1.heap.size C1 P) := (Lim.mk' w1 C1 P).kept k2
  have K2 : Hid (Kept w0 (w2.alloc (.cells #[.int .i64 C2, .int .i64 P] 25))) := ((k1.alloc _ _).trans k2).alloc _ _
  have L2 : Hid (Lim (w2.alloc (.cells #[.int .i64 C2, .int .i64 P] 25)) w2.heap.size C2 P) := Lim.mk' w2 C2 P
  have L1' : Hid (Lim (w2.alloc (.cells #[.int .i64 C2, .int .i64 P] 25)) w1.heap.size C1 P) := L1.out.kept ((Kept.refl w2).alloc _ _)
  clear k1 k2 L1
  go_wp2_with fail
  refine (HW.out _ K2.out).mono ?_
  rintro e w3 ⟨rfl, k3, _, _, q3⟩
  have q3' : Hid (Q w3 (w2.heap.size + 1)) := (show Q w3 (w2.heap.size + 1) from by simpa using q3)
  have K3 : Hid (Kept w0 w3) := K2.out.trans k3
  have l1 : Hid (Lim w3 w1.heap.size C1 P) := L1'.out.kept k3
  have l2 : Hid (Lim w3 w2.heap.size C2 P) := L2.out.kept k3
  clear q3 k3 L1' L2 K2
  go_wp2_with fail
  refine (R1.out w3 w1.heap.size (w2.heap.size + 1) K3.out l1.out q3'.out).mono ?_
  rintro e w4 ⟨⟨x1, rfl⟩, k4⟩
  have K4 : Hid (Kept w0 w4) := K3.out.trans k4
  have l2' : Hid (Lim w4 w2.heap.size C2 P) := l2.out.kept k4
  clear K3 l1 l2 q3' k4
  go_wp2_with fail
  refine (HW.out _ K4.out).mono ?_
  rintro e w5 ⟨rfl, k5, _, _, q5⟩
  have q5' : Hid (Q w5 w4.heap.size) := q5
  have K5 : Hid (Kept w0 w5) := K4.out.trans k5
  have l2 : Hid (Lim w5 w2.heap.size C2 P) := l2'.out.kept k5
  clear K4 q5 k5 l2'
  go_wp2_with fail
  refine (R2.out w5 w2.heap.size w4.heap.size K5.out l2.out q5'.out).mono ?_
  rintro e w6 ⟨⟨x2, rfl⟩, k6⟩
  have K6 : Hid (Kept w0 w6) := K5.out.trans k6
  have K56 : Hid (Kept w5 w6) := k6
  clear k6 K5 l2 q5'
  go_wp2_with fail
  refine (A1.out w6 K6.out).mono ?_
  rintro e w7 ⟨rfl, k7⟩
  have K7 : Hid (Kept w0 w7) := K6.out.trans k7
  have K67 : Hid (Kept w6 w7) := k7
  clear k7
  go_wp2_with fail
  refine (A2.out w7 K7.out).mono ?_
  rintro e w8 ⟨rfl, k8⟩
  have K8 : Hid (Kept w0 w8) := K7.out.trans k8
  have K78 : Hid (Kept w7 w8) := k8
  clear k8
  go_wp2
  go_ret
  exact ⟨rfl, K8.out⟩

set_option maxRecDepth 100000 in
set_option maxHeartbeats 1000000 in
theorem law5_bg (w : World) (C1 C2 P now : Int) (a1 a2 : Option Addr) (n c1 c2 : Nat) (Q : World → Nat → Prop) (C10 : 1 ≤ C1) (C20 : 1 ≤ C2) (P0 : 1 ≤ P) (n1 : n ≤ 4096)
    (HB : Hid (BytesOk w 16 #[.int .i64 C1, .int .i64 C2, .int .i64 P, .slice a1 n c1, .slice a2 n c2, .int .i64 now]))
    (HW : Hid (MakesWords w (.slice a1 n c1) (.slice a2 n c2) n Q)) (A L r1 r2 : Int) (r3 : Bool) (R1 : Hid (ReadsBad w C1 P now n Q)) (R2 : Hid (ReadsGood w C2 P now n Q A L r1 r2 r3))
    (A1 : Hid (Accepts w (.slice a1 n c1) (.slice a2 n c2) C1 false)) (A2 : Hid (Accepts w (.slice a1 n c1) (.slice a2 n c2) C2 true)) :
    Calls Tryf.prog 5 #[.int .i64 C1, .int .i64 C2, .int .i64 P, .slice a1 n c1, .slice a2 n c2, .int .i64 now] w fun e w' => e = .returned (.bool true) ∧ Kept w w' := by
  have hn : (n : Int) ≤ 4096 := by omega
  go_enter Tryf.func5, Tryf.ntmps5
  go_wp2_with fail
  refine HB.out.mono ?_
  rintro e w0 ⟨rfl, rfl⟩
  go_wp2_with fail
  refine (zzlimit_any C1 P _).mono ?_
  rintro e w1 ⟨rfl, k1⟩
  go_wp2_with fail
  refine (zzlimit_any C2 P _).mono ?_
  rintro e w2 ⟨rfl, k2⟩
  have L1 : Hid (Lim w2 w1.heap.size C1 P) := (Lim.mk' w1 C1 P).kept k2
  have K2 : Hid (Kept w0 (w2.alloc (.cells #[.int .i64 C2, .int .i64 P] 25))) := ((k1.alloc _ _).trans k2).alloc _ _
  have L2 : Hid (Lim (w2.alloc (.cells #[.int .i64 C2, .int .i64 P] 25)) w2.heap.size C2 P) := Lim.mk' w2 C2 P
  have L1' : Hid (Lim (w2.alloc (.cells #[.int .i64 C2, .int .i64 P] 25)) w1.heap.size C1 P) := L1.out.kept ((Kept.refl w2).alloc _ _)
  clear k1 k2 L1
  go_wp2_with fail
  refine (HW.out _ K2.out).mono ?_
  rintro e w3 ⟨rfl, k3, _, _, q3⟩
  have q3' : Hid (Q w3 (w2.heap.size + 1)) := (show Q w3 (w2.heap.size + 1) from by simpa using q3)
  have K3 : Hid (Kept w0 w3) := K2.out.trans k3
  have l1 : Hid (Lim w3 w1.heap.size C1 P) := L1'.out.kept k3
  have l2 : Hid (Lim w3 w2.heap.size C2 P) := L2.out.kept k3
  clear q3 k3 L1' L2 K2
  go_wp2_with fail
  refine (R1.out w3 w1.heap.size (w2.heap.size + 1) K3.out l1.out q3'.out).mono ?_
  rintro e w4 ⟨⟨x1, rfl⟩, k4⟩
  have K4 : Hid (Kept w0 w4) := K3.out.trans k4
  have l2' : Hid (Lim w4 w2.heap.size C2 P) := l2.out.kept k4
  clear K3 l1 l2 q3' k4
  go_wp2_with fail
  refine (HW.out _ K4.out).mono ?_
  rintro e w5 ⟨rfl, k5, _, _, q5⟩
  have q5' : Hid (Q w5 w4.heap.size) := q5
  have K5 : Hid (Kept w0 w5) := K4.out.trans k5
  have l2 : Hid (Lim w5 w2.heap.size C2 P) := l2'.out.kept k5
  clear K4 q5 k5 l2'
  go_wp2_with fail
  refine (R2.out w5 w2.heap.size w4.heap.size K5.out l2.out q5'.out).mono ?_
  rintro e w6 ⟨bm2, bw2, rfl, k6, m6⟩
  have M2 : Hid (Mt w6 bm2 (.pointer (some ⟨bw2, 0, none⟩)) (.int .i64 now) (.int .i64 A) (.int .i64 L) (.int .i64 r1) (.int .i64 r2) (.bool r3)) := m6
  clear m6
  have K6 : Hid (Kept w0 w6) := K5.out.trans k6
  have K56 : Hid (Kept w5 w6) := k6
  clear k6 K5 l2 q5'
  go_wp2_with fail
  refine (A1.out w6 K6.out).mono ?_
  rintro e w7 ⟨rfl, k7⟩
  have K7 : Hid (Kept w0 w7) := K6.out.trans k7
  have K67 : Hid (Kept w6 w7) := k7
  clear k7
  go_wp2_with fail
  refine (A2.out w7 K7.out).mono ?_
  rintro e w8 ⟨rfl, k8⟩
  have K8 : Hid (Kept w0 w8) := K7.out.trans k8
  have K78 : Hid (Kept w7 w8) := k8
  clear k8
  go_wp2
  go_ret
  exact ⟨rfl, K8.out⟩

set_option maxRecDepth 100000 in
set_option maxHeartbeats 1000000 in
theorem law5_gb (w : World) (C1 C2 P now : Int) (a1 a2 : Option Addr) (n c1 c2 : Nat) (Q : World → Nat → Prop) (C10 : 1 ≤ C1) (C20 : 1 ≤ C2) (P0 : 1 ≤ P) (n1 : n ≤ 4096)
    (HB : Hid (BytesOk w 16 #[.int .i64 C1, .int .i64 C2, .int .i64 P, .slice a1 n c1, .slice a2 n c2, .int .i64 now]))
    (HW : Hid (MakesWords w (.slice a1 n c1) (.slice a2 n c2) n Q)) (A L r1 r2 : Int) (r3 : Bool) (R1 : Hid (ReadsGood w C1 P now n Q A L r1 r2 r3)) (R2 : Hid (ReadsBad w C2 P now n Q))
    (A1 : Hid (Accepts w (.slice a1 n c1) (.slice a2 n c2) C1 true)) (A2 : Hid (Accepts w (.slice a1 n c1) (.slice a2 n c2) C2 false)) :
    Calls Tryf.prog 5 #[.int .i64 C1, .int .i64 C2, .int .i64 P, .slice a1 n c1, .slice a2 n c2, .int .i64 now] w fun e w' => e = .returned (.bool true) ∧ Kept w w' := by
  have hn : (n : Int) ≤ 4096 := by omega
  go_enter Tryf.func5, Tryf.ntmps5
  go_wp2_with fail
  refine HB.out.mono ?_
  rintro e w0 ⟨rfl, rfl⟩
  go_wp2_with fail
  refine (zzlimit_any C1 P _).mono ?_
  rintro e w1 ⟨rfl, k1⟩
  go_wp2_with fail
  refine (zzlimit_any C2 P _).mono ?_
  rintro e w2 ⟨rfl, k2⟩
  have L1 : Hid (Lim w2 w1.heap.size C1 P) := (Lim.mk' w1 C1 P).kept k2
  have K2 : Hid (Kept w0 (w2.alloc (.cells #[.int .i64 C2, .int .i64 P] 25))) := ((k1.alloc _ _).trans k2).alloc _ _
  have L2 : Hid (Lim (w2.alloc (.cells #[.int .i64 C2, .int .i64 P] 25)) w2.heap.size C2 P) := Lim.mk' w2 C2 P
  have L1' : Hid (Lim (w2.alloc (.cells #[.int .i64 C2, .int .i64 P] 25)) w1.heap.size C1 P) := L1.out.kept ((Kept.refl w2).alloc _ _)
  clear k1 k2 L1
  go_wp2_with fail
  refine (HW.out _ K2.out).mono ?_
  rintro e w3 ⟨rfl, k3, _, _, q3⟩
  have q3' : Hid (Q w3 (w2.heap.size + 1)) := (show Q w3 (w2.heap.size + 1) from by simpa using q3)
  have K3 : Hid (Kept w0 w3) := K2.out.trans k3
  have l1 : Hid (Lim w3 w1.heap.size C1 P) := L1'.out.kept k3
  have l2 : Hid (Lim w3 w2.heap.size C2 P) := L2.out.kept k3
  clear q3 k3 L1' L2 K2
  go_wp2_with fail
  refine (R1.out w3 w1.heap.size (w2.heap.size + 1) K3.out l1.out q3'.out).mono ?_
  rintro e w4 ⟨bm1, bw1, rfl, k4, m4⟩
  have M1 : Hid (Mt w4 bm1 (.pointer (some ⟨bw1, 0, none⟩)) (.int .i64 now) (.int .i64 A) (.int .i64 L) (.int .i64 r1) (.int .i64 r2) (.bool r3)) := m4
  clear m4
  have K4 : Hid (Kept w0 w4) := K3.out.trans k4
  have l2' : Hid (Lim w4 w2.heap.size C2 P) := l2.out.kept k4
  clear K3 l1 l2 q3' k4
  go_wp2_with fail
  refine (HW.out _ K4.out).mono ?_
  rintro e w5 ⟨rfl, k5, _, _, q5⟩
  have q5' : Hid (Q w5 w4.heap.size) := q5
  have K5 : Hid (Kept w0 w5) := K4.out.trans k5
  have l2 : Hid (Lim w5 w2.heap.size C2 P) := l2'.out.kept k5
  have M1' : Hid (Mt w5 bm1 (.pointer (some ⟨bw1, 0, none⟩)) (.int .i64 now) (.int .i64 A) (.int .i64 L) (.int .i64 r1) (.int .i64 r2) (.bool r3)) := M1.out.kept k5
  clear K4 q5 k5 l2'
  go_wp2_with fail
  refine (R2.out w5 w2.heap.size w4.heap.size K5.out l2.out q5'.out).mono ?_
  rintro e w6 ⟨⟨x2, rfl⟩, k6⟩
  have M1'' : Hid (Mt w6 bm1 (.pointer (some ⟨bw1, 0, none⟩)) (.int .i64 now) (.int .i64 A) (.int .i64 L) (.int .i64 r1) (.int .i64 r2) (.bool r3)) := M1'.out.kept k6
  have K6 : Hid (Kept w0 w6) := K5.out.trans k6
  have K56 : Hid (Kept w5 w6) := k6
  clear k6 K5 l2 q5'
  go_wp2_with fail
  refine (A1.out w6 K6.out).mono ?_
  rintro e w7 ⟨rfl, k7⟩
  have K7 : Hid (Kept w0 w7) := K6.out.trans k7
  have K67 : Hid (Kept w6 w7) := k7
  clear k7
  go_wp2_with fail
  refine (A2.out w7 K7.out).mono ?_
  rintro e w8 ⟨rfl, k8⟩
  have K8 : Hid (Kept w0 w8) := K7.out.trans k8
  have K78 : Hid (Kept w7 w8) := k8
  clear k8
  go_wp2
  go_ret
  exact ⟨rfl, K8.out⟩

set_option maxRecDepth 100000 in
set_option maxHeartbeats 1000000 in
theorem law5_gg (w : World) (C1 C2 P now : Int) (a1 a2 : Option Addr) (n c1 c2 : Nat) (Q : World → Nat → Prop) (C10 : 1 ≤ C1) (C20 : 1 ≤ C2) (P0 : 1 ≤ P) (n1 : n ≤ 4096)
    (HB : Hid (BytesOk w 16 #[.int .i64 C1, .int .i64 C2, .int .i64 P, .slice a1 n c1, .slice a2 n c2, .int .i64 now]))
    (HW : Hid (MakesWords w (.slice a1 n c1) (.slice a2 n c2) n Q)) (A L r1 r2 : Int) (r3 : Bool) (R1 : Hid (ReadsGood w C1 P now n Q A L r1 r2 r3)) (R2 : Hid (ReadsGood w C2 P now n Q A L r1 r2 r3))
    (A1 : Hid (Accepts w (.slice a1 n c1) (.slice a2 n c2) C1 true)) (A2 : Hid (Accepts w (.slice a1 n c1) (.slice a2 n c2) C2 true)) :
    Calls Tryf.prog 5 #[.int .i64 C1, .int .i64 C2, .int .i64 P, .slice a1 n c1, .slice a2 n c2, .int .i64 now] w fun e w' => e = .returned (.bool true) ∧ Kept w w' := by
  have hn : (n : Int) ≤ 4096 := by omega
  go_enter Tryf.func5, Tryf.ntmps5
  go_wp2_with fail
  refine HB.out.mono ?_
  rintro e w0 ⟨rfl, rfl⟩
  go_wp2_with fail
  refine (zzlimit_any C1 P _).mono ?_
  rintro e w1 ⟨rfl, k1⟩
  go_wp2_with fail
  refine (zzlimit_any C2 P _).mono ?_
  rintro e w2 ⟨rfl, k2⟩
  have L1 : Hid (Lim w2 w1.heap.size C1 P) := (Lim.mk' w1 C1 P).kept k2
  have K2 : Hid (Kept w0 (w2.alloc (.cells #[.int .i64 C2, .int .i64 P] 25))) := ((k1.alloc _ _).trans k2).alloc _ _
  have L2 : Hid (Lim (w2.alloc (.cells #[.int .i64 C2, .int .i64 P] 25)) w2.heap.size C2 P) := Lim.mk' w2 C2 P
  have L1' : Hid (Lim (w2.alloc (.cells #[.int .i64 C2, .int .i64 P] 25)) w1.heap.size C1 P) := L1.out.kept ((Kept.refl w2).alloc _ _)
  clear k1 k2 L1
  go_wp2_with fail
  refine (HW.out _ K2.out).mono ?_
  rintro e w3 ⟨rfl, k3, _, _, q3⟩
  have q3' : Hid (Q w3 (w2.heap.size + 1)) := (show Q w3 (w2.heap.size + 1) from by simpa using q3)
  have K3 : Hid (Kept w0 w3) := K2.out.trans k3
  have l1 : Hid (Lim w3 w1.heap.size C1 P) := L1'.out.kept k3
  have l2 : Hid (Lim w3 w2.heap.size C2 P) := L2.out.kept k3
  clear q3 k3 L1' L2 K2
  go_wp2_with fail
  refine (R1.out w3 w1.heap.size (w2.heap.size + 1) K3.out l1.out q3'.out).mono ?_
  rintro e w4 ⟨bm1, bw1, rfl, k4, m4⟩
  have M1 : Hid (Mt w4 bm1 (.pointer (some ⟨bw1, 0, none⟩)) (.int .i64 now) (.int .i64 A) (.int .i64 L) (.int .i64 r1) (.int .i64 r2) (.bool r3)) := m4
  clear m4
  have K4 : Hid (Kept w0 w4) := K3.out.trans k4
  have l2' : Hid (Lim w4 w2.heap.size C2 P) := l2.out.kept k4
  clear K3 l1 l2 q3' k4
  go_wp2_with fail
  refine (HW.out _ K4.out).mono ?_
  rintro e w5 ⟨rfl, k5, _, _, q5⟩
  have q5' : Hid (Q w5 w4.heap.size) := q5
  have K5 : Hid (Kept w0 w5) := K4.out.trans k5
  have l2 : Hid (Lim w5 w2.heap.size C2 P) := l2'.out.kept k5
  have M1' : Hid (Mt w5 bm1 (.pointer (some ⟨bw1, 0, none⟩)) (.int .i64 now) (.int .i64 A) (.int .i64 L) (.int .i64 r1) (.int .i64 r2) (.bool r3)) := M1.out.kept k5
  clear K4 q5 k5 l2'
  go_wp2_with fail
  refine (R2.out w5 w2.heap.size w4.heap.size K5.out l2.out q5'.out).mono ?_
  rintro e w6 ⟨bm2, bw2, rfl, k6, m6⟩
  have M2 : Hid (Mt w6 bm2 (.pointer (some ⟨bw2, 0, none⟩)) (.int .i64 now) (.int .i64 A) (.int .i64 L) (.int .i64 r1) (.int .i64 r2) (.bool r3)) := m6
  clear m6
  have M1'' : Hid (Mt w6 bm1 (.pointer (some ⟨bw1, 0, none⟩)) (.int .i64 now) (.int .i64 A) (.int .i64 L) (.int .i64 r1) (.int .i64 r2) (.bool r3)) := M1'.out.kept k6
  have K6 : Hid (Kept w0 w6) := K5.out.trans k6
  have K56 : Hid (Kept w5 w6) := k6
  clear k6 K5 l2 q5'
  go_wp2_with fail
  refine (A1.out w6 K6.out).mono ?_
  rintro e w7 ⟨rfl, k7⟩
  have K7 : Hid (Kept w0 w7) := K6.out.trans k7
  have K67 : Hid (Kept w6 w7) := k7
  clear k7
  go_wp2_with fail
  refine (A2.out w7 K7.out).mono ?_
  rintro e w8 ⟨rfl, k8⟩
  have K8 : Hid (Kept w0 w8) := K7.out.trans k8
  have K78 : Hid (Kept w7 w8) := k8
  clear k8
  go_wp2_with fail
  refine (meterPlace_any bm1 _ now A L r1 r2 r3 w8 ((M1''.out.kept K67.out).kept K78.out)).mono ?_
  rintro e w9 ⟨rfl, k9⟩
  have K9 : Hid (Kept w0 w9) := K8.out.trans k9
  have M2' : Hid (Mt w9 bm2 (.pointer (some ⟨bw2, 0, none⟩)) (.int .i64 now) (.int .i64 A) (.int .i64 L) (.int .i64 r1) (.int .i64 r2) (.bool r3)) := ((M2.out.kept K67.out).kept K78.out).kept k9
  clear k9
  go_wp2_with fail
  refine (meterPlace_any bm2 _ now A L r1 r2 r3 w9 M2'.out).mono ?_
  rintro e w10 ⟨rfl, k10⟩
  have K10 : Hid (Kept w0 w10) := K9.out.trans k10
  clear k10
  go_wp2
  go_ret
  exact ⟨rfl, K10.out⟩

end Go.Proofs.Qxb6609109aFmt
