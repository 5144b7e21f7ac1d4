import Derived.Test.Qxb6609109aFmtWordsOf
set_option linter.unusedVariables false
namespace Go.Proofs.Qxb6609109aFmt
open Go.RowKit Go.Extern.Stop Go.Stop Go.Extern

theorem make_none (w : World) : (Instr.makeSlice 33 (.int .i64 0) (.int .i64 0)).run Tryf.prog w = .ok (.slice (some ⟨w.heap.size, 0, none⟩) 0 0) (w.alloc (.cells #[] 32)) := by kernel_rfl

set_option maxHeartbeats 400000 in
theorem words_zero (a a' : Option Addr) (c1 c2 : Nat) (w : World) :
    Calls Tryf.prog 13 #[.slice a 0 c1, .slice a' 0 c2] w fun e w' => e = .returned (.slice (some ⟨w.heap.size, 0, none⟩) 0 0) ∧ Kept w w' := by
  have hmk := make_none w
  go_enter Tryf.func13, Tryf.ntmps13
  go_wp2
  go_loopw [6] (fun t wr => t = .int .i64 0 ∧ Kept w wr) (fun _ _ => 0)
  case atStart => exact ⟨rfl, (Kept.refl w).alloc _ _⟩
  case round =>
    obtain ⟨rfl, hk⟩ := hrel
    have HK : Hid (Kept w wr) := hk
    clear hk
    go_wp2
    go_ret
    exact ⟨rfl, HK.out⟩


set_option maxHeartbeats 400000 in
theorem fits_yes (h0 l0 : Int) (w : World) (h : Fits h0 l0) (a : U h0) (b : U l0) :
    Calls Tryf.prog 19 #[.int .u64 h0, .int .u64 l0] w fun e w' => e = .returned (.bool true) ∧ w' = w := by
  obtain ⟨a0, a1⟩ := a; obtain ⟨b0, b1⟩ := b
  rcases h with ⟨rfl, h⟩ | ⟨rfl, h⟩
  · go_enter Tryf.func19, Tryf.ntmps19
    go_wp2
    go_ret
    exact ⟨rfl, rfl⟩
  · go_enter Tryf.func19, Tryf.ntmps19
    go_wp2
    go_ret
    exact ⟨rfl, rfl⟩

set_option maxHeartbeats 400000 in
theorem fits_no (h0 l0 : Int) (w : World) (h : ¬ Fits h0 l0) (a : U h0) (b : U l0) :
    Calls Tryf.prog 19 #[.int .u64 h0, .int .u64 l0] w fun e w' => e = .returned (.bool false) ∧ w' = w := by
  obtain ⟨a0, a1⟩ := a; obtain ⟨b0, b1⟩ := b
  by_cases e1 : h0 = 9223372036854775808
  · have h2 : ¬ l0 < 9223372036854775808 := fun hh => h (.inl ⟨e1, hh⟩)
    clear h
    subst e1
    go_enter Tryf.func19, Tryf.ntmps19
    go_wp2
    go_ret
    exact ⟨rfl, rfl⟩
  · by_cases e2 : h0 = 9223372036854775807
    · have h2 : ¬ 9223372036854775808 ≤ l0 := fun hh => h (.inr ⟨e2, hh⟩)
      clear h e1
      subst e2
      go_enter Tryf.func19, Tryf.ntmps19
      go_wp2
      go_ret
      exact ⟨rfl, rfl⟩
    · have f1 : (h0 == 9223372036854775808) = false := beq_eq_false_iff_ne.2 e1
      have f2 : (h0 == 9223372036854775807) = false := beq_eq_false_iff_ne.2 e2
      clear h e1 e2
      go_enter Tryf.func19, Tryf.ntmps19
      go_wp2
      go_ret
      exact ⟨rfl, rfl⟩

/-- Three words in two slices. -/
structure Six (w : World) (b1 o1 b2 o2 : Nat) (h0 l0 h1 l1 h2 l2 : Int) : Prop where
  s0 : w.cell? ⟨b1, o1, none⟩ = some (.int .u64 h0)
  s1 : w.cell? ⟨b1, o1 + 1, none⟩ = some (.int .u64 h1)
  s2 : w.cell? ⟨b1, o1 + 2, none⟩ = some (.int .u64 h2)
  t0 : w.cell? ⟨b2, o2, none⟩ = some (.int .u64 l0)
  t1 : w.cell? ⟨b2, o2 + 1, none⟩ = some (.int .u64 l1)
  t2 : w.cell? ⟨b2, o2 + 2, none⟩ = some (.int .u64 l2)

set_option maxHeartbeats 400000 in
theorem accepts_len (C : Int) (a a' : Option Addr) (n c1 c2 : Nat) (w : World) (hn : ((n : Int) != 3) = true) :
    Calls Tryf.prog 14 #[.int .i64 C, .slice a n c1, .slice a' n c2] w fun e w' => e = .returned (.bool false) ∧ Kept w w' := by
  go_enter Tryf.func14, Tryf.ntmps14
  go_wp2
  go_ret
  exact ⟨rfl, Kept.refl _⟩

theorem kept_drewN (w : World) (n : Nat) : Kept w (w.drewN n) := ⟨⟨rfl, rfl, rfl, Nat.le_refl _, fun _ _ => rfl⟩, fun _ => rfl⟩

set_option maxHeartbeats 1000000 in
theorem accepts_core (C : Int) (b1 o1 c1 b2 o2 c2 : Nat) (h0 l0 h1 l1 h2 l2 : Int) (f : Bool) (w : World) (hs : Six w b1 o1 b2 o2 h0 l0 h1 l1 h2 l2) (C0 : 1 ≤ C) (C1 : C ≤ 9223372036854775807)
    (HF : Hid (∀ w, Calls Tryf.prog 19 #[.int .u64 h0, .int .u64 l0] w fun e w' => e = .returned (.bool f) ∧ w' = w)) (r : Bool)
    (h : Hid ((f = false ∧ r = false) ∨ (f = true ∧ (h1 == 0) = false ∧ r = false) ∨ (f = true ∧ (h1 == 0) = true ∧ (h2 == 0) = false ∧ r = false) ∨
      (f = true ∧ (h1 == 0) = true ∧ (h2 == 0) = true ∧ decide (l1 ≤ C) = false ∧ r = false) ∨ (f = true ∧ (h1 == 0) = true ∧ (h2 == 0) = true ∧ decide (l1 ≤ C) = true ∧ decide (l2 ≤ C) = r))) :
    Calls Tryf.prog 14 #[.int .i64 C, .slice (some ⟨b1, o1, none⟩) 3 c1, .slice (some ⟨b2, o2, none⟩) 3 c2] w fun e w' => e = .returned (.bool r) ∧ Kept w w' := by
  obtain ⟨s0, s1, s2, t0, t1, t2⟩ := hs
  rcases h.out with ⟨rfl, rfl⟩ | ⟨rfl, z1, rfl⟩ | ⟨rfl, z1, z2, rfl⟩ | ⟨rfl, z1, z2, z3, rfl⟩ | ⟨rfl, z1, z2, z3, z4⟩
  · clear h
    go_enter Tryf.func14, Tryf.ntmps14
    go_wp2_with fail
    go_quiet ((go_at_call 19; exact Calls.quiet_of_same (HF.out _)))
    go_wp2
    go_ret
    exact ⟨rfl, kept_drewN _ _⟩
  · clear h
    go_enter Tryf.func14, Tryf.ntmps14
    go_wp2_with fail
    go_quiet ((go_at_call 19; exact Calls.quiet_of_same (HF.out _)))
    go_wp2
    go_ret
    exact ⟨rfl, kept_drewN _ _⟩
  · clear h
    go_enter Tryf.func14, Tryf.ntmps14
    go_wp2_with fail
    go_quiet ((go_at_call 19; exact Calls.quiet_of_same (HF.out _)))
    go_wp2
    go_ret
    exact ⟨rfl, kept_drewN _ _⟩
  · clear h
    go_enter Tryf.func14, Tryf.ntmps14
    go_wp2_with fail
    go_quiet ((go_at_call 19; exact Calls.quiet_of_same (HF.out _)))
    go_wp2
    go_ret
    exact ⟨rfl, kept_drewN _ _⟩
  · clear h
    go_enter Tryf.func14, Tryf.ntmps14
    go_wp2_with fail
    go_quiet ((go_at_call 19; exact Calls.quiet_of_same (HF.out _)))
    go_wp2
    go_ret
    exact ⟨rfl, kept_drewN _ _⟩
end Go.Proofs.Qxb6609109aFmt
