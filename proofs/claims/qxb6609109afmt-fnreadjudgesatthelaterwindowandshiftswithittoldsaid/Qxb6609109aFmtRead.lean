import Derived.Test.Qxb6609109aFmtReadBad
set_option linter.unusedVariables false
namespace Go.Proofs.Qxb6609109aFmt
open Go.RowKit Go.Extern.Stop Go.Stop Go.Extern

/-- What a state says: the window fits an int64 and the counts are at most C. -/
def Fits (h0 l0 : Int) : Prop := (h0 = 9223372036854775808 ∧ l0 < 9223372036854775808) ∨ (h0 = 9223372036854775807 ∧ 9223372036854775808 ≤ l0)
def Good (C h0 l0 h1 l1 h2 l2 : Int) : Prop := Fits h0 l0 ∧ h1 = 0 ∧ h2 = 0 ∧ l1 ≤ C ∧ l2 ≤ C

/-- An unsigned word. -/
def U (x : Int) : Prop := 0 ≤ x ∧ x < 18446744073709551616

def sgn (l0 : Int) : Int := if l0 < 9223372036854775808 then l0 else l0 - 18446744073709551616
theorem sgn_wrap (l0 : Int) (h : U l0) : IntKind.i64.wrap l0 = sgn l0 := by
  obtain ⟨a, b⟩ := h
  rw [IntKind.wrap_i64]; unfold sgn; split <;> omega
theorem sgn_range (l0 : Int) (h : U l0) : -9223372036854775808 ≤ sgn l0 ∧ sgn l0 ≤ 9223372036854775807 := by
  obtain ⟨a, b⟩ := h
  unfold sgn; split <;> omega
theorem fits_iff (h0 l0 : Int) (a : U h0) (b : U l0) : (h0 - 9223372036854775808 != sgn l0 / 9223372036854775808) = false ↔ Fits h0 l0 := by
  obtain ⟨a0, a1⟩ := a; obtain ⟨b0, b1⟩ := b
  rw [bne_eq_false_iff_eq]
  unfold sgn Fits; split <;> omega

set_option maxHeartbeats 400000 in
theorem zzread_of (lim : Addr) (a : Option Addr) (n cap : Nat) (now : Int) (w : World) (Q : Value → World → Prop)
    (h : Hid (Calls Tryf.prog 18 #[.agg #[], .pointer (some lim), .slice a n cap, .int .i64 now] w fun e w' => ∃ x y, e = .returned (.tuple #[x, y]) ∧ Q (.tuple #[x, y]) w')) :
    Calls Tryf.prog 9 #[.pointer (some lim), .slice a n cap, .int .i64 now] w fun e w' => ∃ x y, e = .returned (.tuple #[x, y]) ∧ Q (.tuple #[x, y]) w' := by
  go_enter Tryf.func9, Tryf.ntmps9
  go_wp2_with fail
  refine h.out.mono ?_
  rintro e w1 ⟨x, y, rfl, hq⟩
  go_wp2
  go_ret2
  exact ⟨_, _, rfl, hq⟩

theorem zzread_ok (bl bs cap : Nat) (C P now h0 l0 h1 l1 h2 l2 : Int) (w : World) (hst : St w bl bs C P h0 l0 h1 l1 h2 l2) (hg : Good C h0 l0 h1 l1 h2 l2)
    (b0 : U h0) (b1 : U l0) (q1 : 0 ≤ l1) (q2 : 0 ≤ l2) (C0 : 1 ≤ C) (C1 : C ≤ 9223372036854775807) (p0 : 1 ≤ P) (p1 : P ≤ 9223372036854775807) (n1 : -9223372036854775808 ≤ now) (n2 : now < 9223372036854775808)
    (r1 r2 : Int) (r3 : Bool) (hwi : WI (sgn l0) l1 l2 (now / P) r1 r2 r3) :
    Calls Tryf.prog 9 #[.pointer (some ⟨bl, 0, none⟩), .slice (some ⟨bs, 0, none⟩) 3 cap, .int .i64 now] w fun e w' => ∃ bm bw : Nat, e = .returned (.tuple #[.pointer (some ⟨bm, 0, none⟩), .nilIface]) ∧ Kept w w' ∧ w.heap.size ≤ bm ∧ Mt w' bm (.pointer (some ⟨bw, 0, none⟩)) (.int .i64 now) (.int .i64 (if r3 = true then sgn l0 else now / P)) (.int .i64 (if r3 = true then P else P - now % P)) (.int .i64 r1) (.int .i64 r2) (.bool r3) := by
  obtain ⟨g0, g1, g2, g3, g4⟩ := hg
  have hs := sgn_range l0 b1
  have := read_ok bl bs cap C P now h0 l0 h1 l1 h2 l2 (h0 - 9223372036854775808) (sgn l0) w hst (signed_hi h0 b0.1 b0.2) (sgn_wrap l0 b1) ((fits_iff h0 l0 b0 b1).2 g0)
    (by rw [g1]; rfl) (by rw [g2]; rfl) (decide_eq_false (by omega)) (decide_eq_false (by omega)) q1 q2 C0 C1 p0 p1 g3 g4 n1 n2 hs.1 hs.2 r1 r2 _ _ r3 hwi rfl rfl
  refine (zzread_of ⟨bl, 0, none⟩ _ 3 cap now w (fun v w' => ∃ bm bw : Nat, v = .tuple #[.pointer (some ⟨bm, 0, none⟩), .nilIface] ∧ Kept w w' ∧ w.heap.size ≤ bm ∧ Mt w' bm (.pointer (some ⟨bw, 0, none⟩)) (.int .i64 now) (.int .i64 (if r3 = true then sgn l0 else now / P)) (.int .i64 (if r3 = true then P else P - now % P)) (.int .i64 r1) (.int .i64 r2) (.bool r3)) ?_).mono ?_
  · refine this.mono ?_
    rintro e w' ⟨bm, bw, rfl, h⟩
    exact ⟨_, _, rfl, bm, bw, rfl, h⟩
  · rintro e w' ⟨x, y, rfl, bm, bw, h, h'⟩
    exact ⟨bm, bw, congrArg _ h, h'⟩

theorem zzread_bad (F : Interp) (bl bs cap : Nat) (C P now h0 l0 h1 l1 h2 l2 : Int) (w : World) (hF : F.answers w.tape) (hst : St w bl bs C P h0 l0 h1 l1 h2 l2) (hg : ¬ Good C h0 l0 h1 l1 h2 l2)
    (b0 : U h0) (b1 : U l0) (q1 : 0 ≤ l1) (q2 : 0 ≤ l2) (C0 : 1 ≤ C) (C1 : C ≤ 9223372036854775807) :
    Calls Tryf.prog 9 #[.pointer (some ⟨bl, 0, none⟩), .slice (some ⟨bs, 0, none⟩) 3 cap, .int .i64 now] w fun e w' => (∃ x, e = .returned (.tuple #[.pointer none, .iface 80 x])) ∧ Kept w w' := by
  have core : Calls Tryf.prog 18 #[.agg #[], .pointer (some ⟨bl, 0, none⟩), .slice (some ⟨bs, 0, none⟩) 3 cap, .int .i64 now] w fun e w' => (∃ x, e = .returned (.tuple #[.pointer none, .iface 80 x])) ∧ Kept w w' := by
    cases hf : (h0 - 9223372036854775808 != sgn l0 / 9223372036854775808)
    · refine read_counts F bl bs cap C P now h0 l0 h1 l1 h2 l2 (h0 - 9223372036854775808) (sgn l0) w hF hst (signed_hi h0 b0.1 b0.2) (sgn_wrap l0 b1) hf q1 q2 C0 C1 ?_
      have hff := (fits_iff h0 l0 b0 b1).1 hf
      show _ ∨ _
      by_cases z1 : h1 = 0
      · by_cases z2 : h2 = 0
        · by_cases z3 : C < l1
          · exact .inr (.inr (.inl ⟨by rw [z1]; rfl, by rw [z2]; rfl, decide_eq_true z3⟩))
          · refine .inr (.inr (.inr ⟨by rw [z1]; rfl, by rw [z2]; rfl, decide_eq_false z3, decide_eq_true ?_⟩))
            by_cases z4 : C < l2
            · exact z4
            · exact absurd ⟨hff, z1, z2, by omega, by omega⟩ hg
        · exact .inr (.inl ⟨by rw [z1]; rfl, bne_iff_ne.2 z2⟩)
      · exact .inl (bne_iff_ne.2 z1)
    · exact read_window F bl bs cap C P now h0 l0 h1 l1 h2 l2 (h0 - 9223372036854775808) (sgn l0) w hF hst (signed_hi h0 b0.1 b0.2) (sgn_wrap l0 b1) hf
  refine (zzread_of ⟨bl, 0, none⟩ _ 3 cap now w (fun v w' => (∃ x, v = .tuple #[.pointer none, .iface 80 x]) ∧ Kept w w') ?_).mono ?_
  · refine core.mono ?_
    rintro e w' ⟨⟨x, rfl⟩, h⟩
    exact ⟨_, _, rfl, ⟨x, rfl⟩, h⟩
  · rintro e w' ⟨x, y, rfl, ⟨z, hz⟩, h⟩
    exact ⟨⟨z, congrArg _ hz⟩, h⟩

theorem zzread_len (F : Interp) (lim : Addr) (a : Option Addr) (n cap : Nat) (now : Int) (w : World) (hF : F.answers w.tape) (hn : n ≠ 3) :
    Calls Tryf.prog 9 #[.pointer (some lim), .slice a n cap, .int .i64 now] w fun e w' => (∃ x, e = .returned (.tuple #[.pointer none, .iface 80 x])) ∧ Kept w w' := by
  refine (zzread_of lim a n cap now w (fun v w' => (∃ x, v = .tuple #[.pointer none, .iface 80 x]) ∧ Kept w w') ?_).mono ?_
  · refine (read_len F lim a n cap now w hF (by rw [bne_iff_ne]; omega)).mono ?_
    rintro e w' ⟨⟨x, rfl⟩, h⟩
    exact ⟨_, _, rfl, ⟨x, rfl⟩, h⟩
  · rintro e w' ⟨x, y, rfl, ⟨z, hz⟩, h⟩
    exact ⟨⟨z, congrArg _ hz⟩, h⟩

set_option maxHeartbeats 400000 in
theorem meterPlace_any (bm : Nat) (v0 : Value) (now W L r1 r2 : Int) (r3 : Bool) (w : World) (hm : Mt w bm v0 (.int .i64 now) (.int .i64 W) (.int .i64 L) (.int .i64 r1) (.int .i64 r2) (.bool r3)) :
    Calls Tryf.prog 10 #[.pointer (some ⟨bm, 0, none⟩)] w fun e w' => e = .returned (.tuple #[.int .i64 now, .int .i64 W, .int .i64 L, .int .i64 r1, .int .i64 r2, .bool r3]) ∧ Kept w w' := by
  obtain ⟨hb, c0, c1, c2, c3, c4, c5, c6, fr⟩ := hm
  clear fr
  go_enter Tryf.func10, Tryf.ntmps10
  go_wp2
  go_quiet (fail)
  go_wp2
  refine bodyPost_ret (v := .tuple #[.int .i64 now, .int .i64 W, .int .i64 L, .int .i64 r1, .int .i64 r2, .bool r3]) ?_ rfl ⟨rfl, ?_⟩
  · simp [results, Tryf.results10, go_sem]
  · exact ⟨⟨rfl, rfl, rfl, Nat.le_refl _, fun _ _ => rfl⟩, fun _ => rfl⟩
end Go.Proofs.Qxb6609109aFmt
