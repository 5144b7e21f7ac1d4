import Derived.Test.Qxb6609109aFmtLaw5
import Derived.OpenShut
set_option linter.unusedVariables false
namespace Go.Proofs.Qxb6609109aFmt
open Go.RowKit Go.Extern.Stop Go.Stop Go.Extern

/-- WHAT THE WALK IS TOLD OF A SLICE OF INTEGERS THAT CAME IN (the guide's own frame). -/
def IsRow (k : IntKind) (w : World) (a : Option Addr) (len cap : Nat) (zs : List Int) : Prop :=
  (a = none ∧ len = 0 ∧ cap = 0 ∧ zs = []) ∨
  ∃ x, a = some x ∧ len ≤ cap ∧ cap ≤ maxLen ∧ zs.length = cap ∧ (∀ i, i < zs.length → w.cell? (x.add i) = some (.int k (zs.getD i 0))) ∧ ∀ n ∈ zs, (Lit.int k n).wf = true

/-- Such a slice, not empty: its base and its cells. -/
theorem IsRow.opened {w : World} {a : Option Addr} {len cap : Nat} {zs : List Int} (h : IsRow .u64 w a len cap zs) (h0 : 0 < len) :
    ∃ b o, a = some ⟨b, o, none⟩ ∧ b < w.heap.size ∧ ∀ i, i < len → w.cell? ⟨b, o + i, none⟩ = some (.int .u64 (zs.getD i 0)) ∧ U (zs.getD i 0) := by
  rcases h with ⟨_, rfl, _, _⟩ | ⟨x, rfl, hl, hm, hz, hc, hw⟩
  · omega
  · obtain ⟨b, o, rfl, hcell⟩ := ints_at hc (by omega)
    have hb : b < w.heap.size := by
      have := hcell 0 (by omega)
      simp only [World.cell?] at this
      cases hh : w.heap[b]? with
      | none => rw [hh] at this; cases this
      | some _ => exact (Array.getElem?_eq_some_iff.1 hh).1
    refine ⟨b, o, rfl, hb, fun i hi => ⟨hcell i (by omega), ?_⟩⟩
    have hmem : zs.getD i 0 ∈ zs := by
      rw [List.getD_eq_getElem?_getD, List.getElem?_eq_getElem (by omega)]
      exact List.getElem_mem _
    have := bounds_u64 (hw _ hmem)
    exact ⟨this.1, by omega⟩

set_option maxHeartbeats 400000 in
theorem words_none (a a' : Option Addr) (c1 c2 : Nat) (w : World) :
    Calls Tryf.prog 13 #[.slice a 0 c1, .slice a' 0 c2] w fun e w' => e = .returned (.slice (some ⟨w.heap.size, 0, none⟩) 0 0) ∧ Kept w w' ∧ w.heap.size < w'.heap.size ∧ ∀ i, w'.frozen? ⟨w.heap.size, i, none⟩ = false := by
  have hmk := make_none w
  go_enter Tryf.func13, Tryf.ntmps13
  go_wp2
  go_loopw [6] (fun t wr => t = .int .i64 0 ∧ Kept w wr ∧ w.heap.size < wr.heap.size ∧ ∀ i, wr.frozen? ⟨w.heap.size, i, none⟩ = false) (fun _ _ => 0)
  case atStart => exact ⟨rfl, (Kept.refl w).alloc _ _, by simp, fun i => World.frozen?_alloc_at _ _ _ i rfl⟩
  case round =>
    obtain ⟨rfl, hk⟩ := hrel
    have HK : Hid (Kept w wr ∧ w.heap.size < wr.heap.size ∧ ∀ i, wr.frozen? ⟨w.heap.size, i, none⟩ = false) := hk
    clear hk
    go_wp2
    go_ret
    exact ⟨rfl, HK.out⟩

/-- What three words say, where there are three. -/
def Q3 (n : Nat) (h0 l0 h1 l1 h2 l2 : Int) (W : World) (g : Nat) : Prop := n = 3 → Wds W g h0 l0 h1 l1 h2 l2

theorem makes_words {w : World} {a1 a2 : Option Addr} {n c1 c2 : Nat} {z1 z2 : List Int} (h1 : IsRow .u64 w a1 n c1 z1) (h2 : IsRow .u64 w a2 n c2 z2) (hn : n ≤ 4096) :
    MakesWords w (.slice a1 n c1) (.slice a2 n c2) n (Q3 n (z1.getD 0 0) (z2.getD 0 0) (z1.getD 1 0) (z2.getD 1 0) (z1.getD 2 0) (z2.getD 2 0)) := by
  intro W hk
  by_cases h0 : n = 0
  · subst h0
    refine (words_none a1 a2 c1 c2 W).mono ?_
    rintro e w' ⟨rfl, hk', hs, hfr⟩
    exact ⟨rfl, hk', hs, hfr, fun h => by cases h⟩
  · obtain ⟨b1, o1, rfl, hb1, hc1⟩ := h1.opened (by omega)
    obtain ⟨b2, o2, rfl, hb2, hc2⟩ := h2.opened (by omega)
    refine (words_any b1 o1 c1 b2 o2 c2 n (fun i => z1.getD i 0) (fun i => z2.getD i 0) W (by omega) hn (Nat.lt_of_lt_of_le hb1 hk.below.size) (Nat.lt_of_lt_of_le hb2 hk.below.size) (fun i hi => (hk.cells _ _ hb1).trans (hc1 i hi).1) (fun i hi => (hk.cells _ _ hb2).trans (hc2 i hi).1)).mono ?_
    rintro e w' ⟨rfl, hf⟩
    refine ⟨rfl, hf.kept, hf.gs, hf.fr, ?_⟩
    intro h3
    subst h3
    exact ⟨hf.gs, hf.done0 0 (by omega), hf.done1 0 (by omega), hf.done0 1 (by omega), hf.done1 1 (by omega), hf.done0 2 (by omega), hf.done1 2 (by omega)⟩

theorem st_of {w : World} {bl g : Nat} {C P h0 l0 h1 l1 h2 l2 : Int} (hl : Lim w bl C P) (hw : Wds w g h0 l0 h1 l1 h2 l2) : St w bl g C P h0 l0 h1 l1 h2 l2 :=
  ⟨hl.hb, hw.hb, hl.e0, hl.e1, hw.s0, hw.s1, hw.s2, hw.s3, hw.s4, hw.s5⟩

theorem answers_kept {F : Interp} {w W : World} (h : F.answers w.tape) (hk : Kept w W) : F.answers W.tape := by
  rw [hk.below.tape]; exact h

theorem reads_bad (F : Interp) {w : World} {n : Nat} {C P now h0 l0 h1 l1 h2 l2 : Int} (hF : F.answers w.tape) (hb : n ≠ 3 ∨ ¬ Good C h0 l0 h1 l1 h2 l2)
    (b0 : U h0) (b1 : U l0) (b2 : U l1) (b3 : U l2) (C0 : 1 ≤ C) (C1 : C ≤ 9223372036854775807) : ReadsBad w C P now n (Q3 n h0 l0 h1 l1 h2 l2) := by
  intro W bl g hk hl hq
  by_cases h3 : n = 3
  · subst h3
    exact zzread_bad F bl g 3 C P now h0 l0 h1 l1 h2 l2 W (answers_kept hF hk) (st_of hl (hq rfl)) (hb.resolve_left (fun h => h rfl)) b0 b1 b2.1 b3.1 C0 C1
  · exact zzread_len F ⟨bl, 0, none⟩ (some ⟨g, 0, none⟩) n n now W (answers_kept hF hk) h3

theorem reads_good {w : World} {C P now h0 l0 h1 l1 h2 l2 : Int} (hg : Good C h0 l0 h1 l1 h2 l2)
    (b0 : U h0) (b1 : U l0) (b2 : U l1) (b3 : U l2) (C0 : 1 ≤ C) (C1 : C ≤ 9223372036854775807) (p0 : 1 ≤ P) (p1 : P ≤ 9223372036854775807) (n1 : -9223372036854775808 ≤ now) (n2 : now < 9223372036854775808)
    (r1 r2 : Int) (r3 : Bool) (hwi : WI (sgn l0) l1 l2 (now / P) r1 r2 r3) : ReadsGood w C P now 3 (Q3 3 h0 l0 h1 l1 h2 l2) (if r3 = true then sgn l0 else now / P) (if r3 = true then P else P - now % P) r1 r2 r3 := by
  intro W bl g hk hl hq
  refine (zzread_ok bl g 3 C P now h0 l0 h1 l1 h2 l2 W (st_of hl (hq rfl)) hg b0 b1 b2.1 b3.1 C0 C1 p0 p1 n1 n2 r1 r2 r3 hwi).mono ?_
  rintro e w' ⟨bm, bw, rfl, hk', _, hm⟩
  exact ⟨bm, bw, rfl, hk', hm⟩

theorem Six.kept {w w' : World} {b1 o1 b2 o2 : Nat} {h0 l0 h1 l1 h2 l2 : Int} (h : Six w b1 o1 b2 o2 h0 l0 h1 l1 h2 l2) (hk : Kept w w') (hb1 : b1 < w.heap.size) (hb2 : b2 < w.heap.size) : Six w' b1 o1 b2 o2 h0 l0 h1 l1 h2 l2 :=
  ⟨(hk.cells _ _ hb1).trans h.s0, (hk.cells _ _ hb1).trans h.s1, (hk.cells _ _ hb1).trans h.s2, (hk.cells _ _ hb2).trans h.t0, (hk.cells _ _ hb2).trans h.t1, (hk.cells _ _ hb2).trans h.t2⟩

theorem accepts_no {w : World} {a1 a2 : Option Addr} {n c1 c2 : Nat} {z1 z2 : List Int} (h1 : IsRow .u64 w a1 n c1 z1) (h2 : IsRow .u64 w a2 n c2 z2) {C : Int} (C0 : 1 ≤ C) (C1 : C ≤ 9223372036854775807)
    (hb : n ≠ 3 ∨ ¬ Good C (z1.getD 0 0) (z2.getD 0 0) (z1.getD 1 0) (z2.getD 1 0) (z1.getD 2 0) (z2.getD 2 0)) : Accepts w (.slice a1 n c1) (.slice a2 n c2) C false := by
  intro W hk
  by_cases h3 : n = 3
  · subst h3
    have hg := hb.resolve_left (fun h => h rfl)
    obtain ⟨b1, o1, rfl, hb1, hc1⟩ := h1.opened (by omega)
    obtain ⟨b2, o2, rfl, hb2, hc2⟩ := h2.opened (by omega)
    have six : Six W b1 o1 b2 o2 _ _ _ _ _ _ := Six.kept ⟨(hc1 0 (by omega)).1, (hc1 1 (by omega)).1, (hc1 2 (by omega)).1, (hc2 0 (by omega)).1, (hc2 1 (by omega)).1, (hc2 2 (by omega)).1⟩ hk hb1 hb2
    have u0 := (hc1 0 (by omega)).2
    have u1 := (hc2 0 (by omega)).2
    generalize z1.getD 0 0 = h0 at *
    generalize z2.getD 0 0 = l0 at *
    generalize z1.getD 1 0 = h1' at *
    generalize z2.getD 1 0 = l1 at *
    generalize z1.getD 2 0 = h2' at *
    generalize z2.getD 2 0 = l2 at *
    by_cases hf : Fits h0 l0
    · refine accepts_core C b1 o1 c1 b2 o2 c2 h0 l0 h1' l1 h2' l2 true W six C0 C1 (fun w => fits_yes h0 l0 w hf u0 u1) false ?_
      show _ ∨ _
      by_cases e1 : h1' = 0
      · by_cases e2 : h2' = 0
        · by_cases e3 : l1 ≤ C
          · refine .inr (.inr (.inr (.inr ⟨rfl, beq_iff_eq.2 e1, beq_iff_eq.2 e2, decide_eq_true e3, decide_eq_false fun e4 => hg ⟨hf, e1, e2, e3, e4⟩⟩)))
          · exact .inr (.inr (.inr (.inl ⟨rfl, beq_iff_eq.2 e1, beq_iff_eq.2 e2, decide_eq_false e3, rfl⟩)))
        · exact .inr (.inr (.inl ⟨rfl, beq_iff_eq.2 e1, beq_eq_false_iff_ne.2 e2, rfl⟩))
      · exact .inr (.inl ⟨rfl, beq_eq_false_iff_ne.2 e1, rfl⟩)
    · exact accepts_core C b1 o1 c1 b2 o2 c2 h0 l0 h1' l1 h2' l2 false W six C0 C1 (fun w => fits_no h0 l0 w hf u0 u1) false (Or.inl ⟨rfl, rfl⟩)
  · exact accepts_len C a1 a2 n c1 c2 W (by rw [bne_iff_ne]; omega)

theorem accepts_yes {w : World} {a1 a2 : Option Addr} {c1 c2 : Nat} {z1 z2 : List Int} (h1 : IsRow .u64 w a1 3 c1 z1) (h2 : IsRow .u64 w a2 3 c2 z2) {C : Int} (C0 : 1 ≤ C) (C1 : C ≤ 9223372036854775807)
    (hg : Good C (z1.getD 0 0) (z2.getD 0 0) (z1.getD 1 0) (z2.getD 1 0) (z1.getD 2 0) (z2.getD 2 0)) : Accepts w (.slice a1 3 c1) (.slice a2 3 c2) C true := by
  intro W hk
  obtain ⟨b1, o1, rfl, hb1, hc1⟩ := h1.opened (by omega)
  obtain ⟨b2, o2, rfl, hb2, hc2⟩ := h2.opened (by omega)
  have six : Six W b1 o1 b2 o2 _ _ _ _ _ _ := Six.kept ⟨(hc1 0 (by omega)).1, (hc1 1 (by omega)).1, (hc1 2 (by omega)).1, (hc2 0 (by omega)).1, (hc2 1 (by omega)).1, (hc2 2 (by omega)).1⟩ hk hb1 hb2
  exact accepts_core C b1 o1 c1 b2 o2 c2 _ _ _ _ _ _ true W six C0 C1 (fun w => fits_yes _ _ w hg.1 (hc1 0 (by omega)).2 (hc2 0 (by omega)).2) true (Or.inr (.inr (.inr (.inr ⟨rfl, beq_iff_eq.2 hg.2.1, beq_iff_eq.2 hg.2.2.1, decide_eq_true hg.2.2.2.1, decide_eq_true hg.2.2.2.2⟩))))

/-- Some answer of weighedIn. -/
theorem wi_some (cw cc cp win : Int) : ∃ r1 r2 r3, WI cw cc cp win r1 r2 r3 := by
  by_cases a : win = cw
  · exact ⟨_, _, _, .inl ⟨a, rfl, rfl, rfl⟩⟩
  · by_cases b : win < cw
    · exact ⟨_, _, _, .inr (.inr (.inr ⟨b, rfl, rfl, rfl⟩))⟩
    · by_cases c : win = cw + 1
      · exact ⟨_, _, _, .inr (.inr (.inl ⟨c, rfl, rfl, rfl⟩))⟩
      · exact ⟨_, _, _, .inr (.inl ⟨by omega, rfl, rfl, rfl⟩)⟩

/-! ### FnReadCountBoundsOnlyRefusal -/
set_option maxHeartbeats 400000 in
theorem bytes16_any (x y p z : Value) (a1 a2 : Option Addr) (n1 n2 c1 c2 : Nat) (w : World) (m1 : n1 ≤ maxLen) (m2 : n2 ≤ maxLen) :
    Calls Tryf.prog 16 #[x, y, p, .slice a1 n1 c1, .slice a2 n2 c2, z] w fun e w' => (∃ b, e = .returned (.bool b)) ∧ w' = w := by
  unfold maxLen at m1 m2
  go_enter Tryf.func16, Tryf.ntmps16
  go_wp2
  all_goals (go_ret; exact ⟨⟨_, rfl⟩, rfl⟩)
set_option maxHeartbeats 400000 in
theorem bytes16_ok (x y p z : Value) (a1 a2 : Option Addr) (n1 n2 c1 c2 : Nat) (w : World) (m1 : n1 ≤ 4096) (m2 : n2 ≤ 4096) :
    Calls Tryf.prog 16 #[x, y, p, .slice a1 n1 c1, .slice a2 n2 c2, z] w fun e w' => e = .returned (.bool true) ∧ w' = w := by
  go_enter Tryf.func16, Tryf.ntmps16
  go_wp2
  go_ret
  exact ⟨rfl, rfl⟩

set_option maxRecDepth 100000 in
set_option maxHeartbeats 400000 in
theorem law5_early (C1 C2 P now : Int) (a1 a2 : Option Addr) (n1 n2 c1 c2 : Nat) (w : World) (m1 : n1 ≤ maxLen) (m2 : n2 ≤ maxLen)
    (h : 4096 < n1 ∨ (n1 ≤ 4096 ∧ 4096 < n2) ∨ (n1 ≤ 4096 ∧ n2 ≤ 4096 ∧ C1 < 1) ∨ (n1 ≤ 4096 ∧ n2 ≤ 4096 ∧ 1 ≤ C1 ∧ C2 < 1) ∨ (n1 ≤ 4096 ∧ n2 ≤ 4096 ∧ 1 ≤ C1 ∧ 1 ≤ C2 ∧ P < 1) ∨ (n1 ≤ 4096 ∧ n2 ≤ 4096 ∧ 1 ≤ C1 ∧ 1 ≤ C2 ∧ 1 ≤ P ∧ ((n1 : Int) != n2) = true)) :
    Calls Tryf.prog 5 #[.int .i64 C1, .int .i64 C2, .int .i64 P, .slice a1 n1 c1, .slice a2 n2 c2, .int .i64 now] w fun e w' => e = .returned (.bool true) ∧ Kept w w' := by
  have HB : Hid (Calls Tryf.prog 16 #[.int .i64 C1, .int .i64 C2, .int .i64 P, .slice a1 n1 c1, .slice a2 n2 c2, .int .i64 now] w fun e w' => (∃ b, e = .returned (.bool b)) ∧ w' = w) := bytes16_any _ _ _ _ a1 a2 n1 n2 c1 c2 w m1 m2
  unfold maxLen at m1 m2
  rcases h with h | ⟨h, h'⟩ | ⟨h, h', h3⟩ | ⟨h, h', h3, h4⟩ | ⟨h, h', h3, h4, h5⟩ | ⟨h, h', h3, h4, h5, h6⟩
  all_goals
    go_enter Tryf.func5, Tryf.ntmps5
    go_wp2_with fail
    refine HB.out.mono ?_
    rintro e w0 ⟨⟨b, rfl⟩, rfl⟩
    cases b
    · go_wp2
      go_ret
      exact ⟨rfl, Kept.refl _⟩
    · go_wp2
      go_ret
      exact ⟨rfl, Kept.refl _⟩

theorem law5_any (F : Interp) (C1 C2 P now : Int) (a1 a2 : Option Addr) (n1 n2 c1 c2 : Nat) (z1 z2 : List Int) (w : World) (hF : F.answers w.tape) (w0 : (Lit.int .i64 C1).wf = true) (w1 : (Lit.int .i64 C2).wf = true) (w2 : (Lit.int .i64 P).wf = true) (w5 : (Lit.int .i64 now).wf = true)
    (h1 : IsRow .u64 w a1 n1 c1 z1) (h2 : IsRow .u64 w a2 n2 c2 z2) :
    Calls Tryf.prog 5 #[.int .i64 C1, .int .i64 C2, .int .i64 P, .slice a1 n1 c1, .slice a2 n2 c2, .int .i64 now] w fun e w' => e = .returned (.bool true) ∧ Kept w w' := by
  have b0 := bounds_i64 w0
  have b1 := bounds_i64 w1
  have b2 := bounds_i64 w2
  have b5 := bounds_i64 w5
  have m1 : n1 ≤ maxLen := by rcases h1 with ⟨_, rfl, _, _⟩ | ⟨_, _, _, _, _⟩ <;> omega
  have m2 : n2 ≤ maxLen := by rcases h2 with ⟨_, rfl, _, _⟩ | ⟨_, _, _, _, _⟩ <;> omega
  by_cases e1 : 4096 < n1
  · exact law5_early C1 C2 P now a1 a2 n1 n2 c1 c2 w m1 m2 (.inl e1)
  by_cases e2 : 4096 < n2
  · exact law5_early C1 C2 P now a1 a2 n1 n2 c1 c2 w m1 m2 (.inr (.inl ⟨by omega, e2⟩))
  by_cases e3 : C1 < 1
  · exact law5_early C1 C2 P now a1 a2 n1 n2 c1 c2 w m1 m2 (.inr (.inr (.inl ⟨by omega, by omega, e3⟩)))
  by_cases e4 : C2 < 1
  · exact law5_early C1 C2 P now a1 a2 n1 n2 c1 c2 w m1 m2 (.inr (.inr (.inr (.inl ⟨by omega, by omega, by omega, e4⟩))))
  by_cases e5 : P < 1
  · exact law5_early C1 C2 P now a1 a2 n1 n2 c1 c2 w m1 m2 (.inr (.inr (.inr (.inr (.inl ⟨by omega, by omega, by omega, by omega, e5⟩)))))
  by_cases e6 : n1 = n2
  · subst e6
    have hB : BytesOk w 16 #[.int .i64 C1, .int .i64 C2, .int .i64 P, .slice a1 n1 c1, .slice a2 n1 c2, .int .i64 now] := bytes16_ok _ _ _ _ a1 a2 n1 n1 c1 c2 w (by omega) (by omega)
    have hW := makes_words h1 h2 (by omega)
    by_cases h3 : n1 = 3
    · subst h3
      obtain ⟨_, _, _, _, hc1⟩ := h1.opened (by omega)
      obtain ⟨_, _, _, _, hc2⟩ := h2.opened (by omega)
      have u0 := (hc1 0 (by omega)).2
      have v0 := (hc2 0 (by omega)).2
      have v1 := (hc2 1 (by omega)).2
      have v2 := (hc2 2 (by omega)).2
      obtain ⟨r1, r2, r3, hwi⟩ := wi_some (sgn (z2.getD 0 0)) (z2.getD 1 0) (z2.getD 2 0) (now / P)
      by_cases g1 : Good C1 (z1.getD 0 0) (z2.getD 0 0) (z1.getD 1 0) (z2.getD 1 0) (z1.getD 2 0) (z2.getD 2 0)
      · have R1 := reads_good (w := w) (now := now) g1 u0 v0 v1 v2 (by omega) b0.2 (show 1 ≤ P by omega) b2.2 b5.1 (by omega) r1 r2 r3 hwi
        have A1 := accepts_yes h1 h2 (by omega) b0.2 g1
        by_cases g2 : Good C2 (z1.getD 0 0) (z2.getD 0 0) (z1.getD 1 0) (z2.getD 1 0) (z1.getD 2 0) (z2.getD 2 0)
        · exact law5_gg w C1 C2 P now a1 a2 3 c1 c2 _ (by omega) (by omega) (by omega) (by omega) hB hW _ _ r1 r2 r3 R1 (reads_good g2 u0 v0 v1 v2 (by omega) b1.2 (by omega) b2.2 b5.1 (by omega) r1 r2 r3 hwi) A1 (accepts_yes h1 h2 (by omega) b1.2 g2)
        · exact law5_gb w C1 C2 P now a1 a2 3 c1 c2 _ (by omega) (by omega) (by omega) (by omega) hB hW _ _ r1 r2 r3 R1 (reads_bad F hF (.inr g2) u0 v0 v1 v2 (by omega) b1.2) A1 (accepts_no h1 h2 (by omega) b1.2 (.inr g2))
      · have R1 := reads_bad (w := w) (n := 3) (P := P) (now := now) F hF (.inr g1) u0 v0 v1 v2 (by omega) b0.2
        have A1 := accepts_no h1 h2 (by omega) b0.2 (.inr g1)
        by_cases g2 : Good C2 (z1.getD 0 0) (z2.getD 0 0) (z1.getD 1 0) (z2.getD 1 0) (z1.getD 2 0) (z2.getD 2 0)
        · exact law5_bg w C1 C2 P now a1 a2 3 c1 c2 _ (by omega) (by omega) (by omega) (by omega) hB hW _ _ r1 r2 r3 R1 (reads_good g2 u0 v0 v1 v2 (by omega) b1.2 (by omega) b2.2 b5.1 (by omega) r1 r2 r3 hwi) A1 (accepts_yes h1 h2 (by omega) b1.2 g2)
        · exact law5_bb w C1 C2 P now a1 a2 3 c1 c2 _ (by omega) (by omega) (by omega) (by omega) hB hW R1 (reads_bad F hF (.inr g2) u0 v0 v1 v2 (by omega) b1.2) A1 (accepts_no h1 h2 (by omega) b1.2 (.inr g2))
    · have hR : ∀ C, 1 ≤ C → C ≤ 9223372036854775807 → ReadsBad w C P now n1 (Q3 n1 (z1.getD 0 0) (z2.getD 0 0) (z1.getD 1 0) (z2.getD 1 0) (z1.getD 2 0) (z2.getD 2 0)) := by
        intro C _ _ W bl g hk hl hq
        exact zzread_len F ⟨bl, 0, none⟩ (some ⟨g, 0, none⟩) n1 n1 now W (answers_kept hF hk) h3
      exact law5_bb w C1 C2 P now a1 a2 n1 c1 c2 _ (by omega) (by omega) (by omega) (by omega) hB hW (hR C1 (by omega) b0.2) (hR C2 (by omega) b1.2) (accepts_no h1 h2 (by omega) b0.2 (.inl h3)) (accepts_no h1 h2 (by omega) b1.2 (.inl h3))
  · exact law5_early C1 C2 P now a1 a2 n1 n2 c1 c2 w m1 m2 (.inr (.inr (.inr (.inr (.inr ⟨by omega, by omega, by omega, by omega, by omega, by rw [bne_iff_ne]; omega⟩)))))
end Go.Proofs.Qxb6609109aFmt
