/-
  THE PROOF OF 'Rows.FnTallyDenialOneTokenMoreSaid'. The frame is the program's shell (proof-skeleton.mjs); the walk is filled.
-/
import Derived.Test.Qxb6609109aTally
import Derived.WalkKit
import Derived.ProofKit
import Derived.OpenShut
import Derived.ShutString
namespace Go.Proofs.Qxb6609109a.fnTallyDenialOneTokenMore
open Go.ChangeShapes Go.WideShapes Go.ChangeAt Go.RowKit
open Go.ChangeMaps (open_string shut_string)
set_option linter.unusedVariables false      -- a walk need not use every 'w<i>' (that an integer argument fits its kind)

theorem own : ownKnob Try.prog.godebug = none := by kernel_rfl

/-! ### THE WALK -/
theorem wrap_i64_in (x : Int) (h0 : -9223372036854775808 ≤ x) (h1 : x ≤ 9223372036854775807) : IntKind.i64.wrap x = x := by
  rw [IntKind.wrap_i64]; omega

set_option maxHeartbeats 1000000 in
theorem main (period token stored need R1 R2 r1 r2 : Int) (w : World) (c1 : 1 ≤ token) (c2 : token ≤ period) (c3 : period ≤ 4611686018427387904) (c4 : (period % token != 0) = false)
   (c5 : -4611686018427387904 < stored) (c6 : stored ≤ period - token) (c7 : stored < need) (c8 : need ≤ 4611686018427387904 - token)
   (HR1 : Hid (max stored 0 / token = R1)) (HR2 : Hid (max (stored + token) 0 / token = R2)) 
   (k1 : 0 ≤ R1) (k2 : R1 ≤ 4611686018427387904)
   (t1 : (0 < stored ∧ stored / token = R1) ∨ (stored ≤ 0 ∧ R1 = 0))
   (t2 : (0 < stored + token ∧ (stored + token) / token = R2) ∨ (stored + token ≤ 0 ∧ R2 = 0))
   (t3 : stored < 0 ∨ (0 ≤ stored ∧ R2 = R1 + 1)) :
    Calls Try.prog 4 #[.int .i64 period, .int .i64 token, .int .i64 stored, .int .i64 need] w fun e w' => e = .returned (.bool true) ∧ Grown w w' := by
  have HC1 : Hid (∀ w, Calls Try.prog 8 #[.int .i64 period, .int .i64 token, .int .i64 stored, .int .i64 need, .bool false] w fun e w' => e = .returned (.tuple #[.bool false, .int .i64 R1, .int .i64 (need - stored), .int .i64 (period - stored)]) ∧ Kept w w') := by
    intro w
    refine nsTally_any period token stored need R1 _ _ w c1 (by omega) (by omega) (by omega) HR1 ?_ ?_
    · show _ = _
      rw [wrap_i64_in _ (by omega) (by omega)]; omega
    · exact wrap_i64_in _ (by omega) (by omega)
  have HC2 : Hid (∀ w, Calls Try.prog 8 #[.int .i64 period, .int .i64 token, .int .i64 (stored + token), .int .i64 (need + token), .bool false] w fun e w' => e = .returned (.tuple #[.bool false, .int .i64 R2, .int .i64 (need - stored), .int .i64 (period - stored - token)]) ∧ Kept w w') := by
    intro w
    refine nsTally_any period token (stored + token) (need + token) R2 _ _ w c1 (by omega) (by omega) (by omega) HR2 ?_ ?_
    · show _ = _
      rw [wrap_i64_in _ (by omega) (by omega)]; omega
    · show _ = _
      rw [wrap_i64_in _ (by omega) (by omega)]; omega
  clear HR1 HR2
  rcases t1 with ⟨t1, u1⟩ | ⟨t1, u1⟩
  · rcases t2 with ⟨t2, u2⟩ | ⟨t2, u2⟩
    · rcases t3 with t3 | ⟨t3, u3⟩
      · omega
      · subst u3
        go_enter Try.func4, Try.ntmps4
        go_wp2_with fail
        refine (HC1.out _).mono ?_
        rintro e w1 ⟨rfl, hk1⟩
        go_wp2_with fail
        refine (HC2.out _).mono ?_
        rintro e w2 ⟨rfl, hk2⟩
        go_wp2
        go_ret
        exact ⟨rfl, (hk1.trans hk2).grown⟩
    · omega
  · subst u1
    rcases t2 with ⟨t2, u2⟩ | ⟨t2, u2⟩
    · rcases t3 with t3 | ⟨t3, u3⟩
      · go_enter Try.func4, Try.ntmps4
        go_wp2_with fail
        refine (HC1.out _).mono ?_
        rintro e w1 ⟨rfl, hk1⟩
        go_wp2_with fail
        refine (HC2.out _).mono ?_
        rintro e w2 ⟨rfl, hk2⟩
        go_wp2
        go_ret
        exact ⟨rfl, (hk1.trans hk2).grown⟩
      · subst u3
        go_enter Try.func4, Try.ntmps4
        go_wp2_with fail
        refine (HC1.out _).mono ?_
        rintro e w1 ⟨rfl, hk1⟩
        go_wp2_with fail
        refine (HC2.out _).mono ?_
        rintro e w2 ⟨rfl, hk2⟩
        go_wp2
        go_ret
        exact ⟨rfl, (hk1.trans hk2).grown⟩
    · subst u2
      have t3' : stored < 0 := by omega
      clear t3
      go_enter Try.func4, Try.ntmps4
      go_wp2_with fail
      refine (HC1.out _).mono ?_
      rintro e w1 ⟨rfl, hk1⟩
      go_wp2_with fail
      refine (HC2.out _).mono ?_
      rintro e w2 ⟨rfl, hk2⟩
      go_wp2
      go_ret
      exact ⟨rfl, (hk1.trans hk2).grown⟩

set_option maxHeartbeats 1000000 in
theorem walk (a0 : Int) (a1 : Int) (a2 : Int) (a3 : Int) (w0 : (Lit.int .i64 a0).wf = true) (w1 : (Lit.int .i64 a1).wf = true) (w2 : (Lit.int .i64 a2).wf = true) (w3 : (Lit.int .i64 a3).wf = true) (w : World) :
    Calls Try.prog 4 #[.int .i64 a0, .int .i64 a1, .int .i64 a2, .int .i64 a3] w fun e w' => e = .returned (.bool true) ∧ Grown w w' := by
  by_cases c1 : a1 < 1
  · go_enter Try.func4, Try.ntmps4
    go_wp2
    go_ret
    exact ⟨rfl, Grown.refl _⟩
  by_cases c2 : a0 < a1
  · go_enter Try.func4, Try.ntmps4
    go_wp2
    go_ret
    exact ⟨rfl, Grown.refl _⟩
  by_cases c3 : 4611686018427387904 < a0
  · go_enter Try.func4, Try.ntmps4
    go_wp2
    go_ret
    exact ⟨rfl, Grown.refl _⟩
  have d1 : 1 ≤ a1 := by omega
  have d2 : a1 ≤ a0 := by omega
  have d3 : a0 ≤ 4611686018427387904 := by omega
  clear c1 c2 c3
  cases c4 : (a0 % a1 != 0)
  case true =>
    go_enter Try.func4, Try.ntmps4
    go_wp2
    go_ret
    exact ⟨rfl, Grown.refl _⟩
  by_cases c5 : a2 ≤ -4611686018427387904
  · go_enter Try.func4, Try.ntmps4
    go_wp2
    go_ret
    exact ⟨rfl, Grown.refl _⟩
  by_cases c6 : a0 - a1 < a2
  · go_enter Try.func4, Try.ntmps4
    go_wp2
    go_ret
    exact ⟨rfl, Grown.refl _⟩
  by_cases c7 : a3 ≤ a2
  · go_enter Try.func4, Try.ntmps4
    go_wp2
    go_ret
    exact ⟨rfl, Grown.refl _⟩
  by_cases c8 : 4611686018427387904 - a1 < a3
  · go_enter Try.func4, Try.ntmps4
    go_wp2
    go_ret
    exact ⟨rfl, Grown.refl _⟩
  have q0 : 0 ≤ max a2 0 / a1 := Int.ediv_nonneg (by omega) (by omega)
  have q1 : max a2 0 / a1 ≤ max a2 0 := Int.ediv_le_self a1 (by omega)
  have e0 : max a2 0 ≤ a0 := by omega
  refine main a0 a1 a2 a3 (max a2 0 / a1) (max (a2 + a1) 0 / a1) 0 0 w d1 d2 d3 c4 (by omega) (by omega) (by omega) (by omega) rfl rfl q0 (by omega) ?_ ?_ ?_
  · rcases Int.lt_or_le 0 a2 with h | h
    · exact .inl ⟨h, by rw [show max a2 0 = a2 by omega]⟩
    · exact .inr ⟨h, by rw [show max a2 0 = 0 by omega, Int.zero_ediv]⟩
  · rcases Int.lt_or_le 0 (a2 + a1) with h | h
    · exact .inl ⟨h, by rw [show max (a2 + a1) 0 = a2 + a1 by omega]⟩
    · exact .inr ⟨h, by rw [show max (a2 + a1) 0 = 0 by omega, Int.zero_ediv]⟩
  · rcases Int.lt_or_le a2 0 with h | h
    · exact .inl h
    · refine .inr ⟨h, ?_⟩
      rw [show max a2 0 = a2 by omega, show max (a2 + a1) 0 = a2 + a1 by omega]
      have := Int.add_mul_ediv_right a2 1 (show a1 ≠ 0 by omega)
      rw [Int.one_mul] at this
      exact this

/-! ### THE ROW's STEP: WRITTEN OUT: LEAVE IT -/
set_option maxRecDepth 100000 in
theorem lifted (os : Os) (started : os.Started) (H : Type) (enc : TypeId × Value → H) :
    ReturnsInHanded {} Try.checked os 4 .any (Rows.fnTallyDenialOneTokenMoreSpec.pre6 enc Try.prog Try.f4 Rows.fnTallyDenialOneTokenMoreRow.domain false) (Rows.fnTallyDenialOneTokenMoreSpec.post enc Try.prog Try.f4 false true false false) := by
  refine returnsInHanded_of_change (C := Try.checked) own started (by kernel_rfl) Try.func4
    (ChangeSpec.witness6 (enc := enc) (C := Try.checked) false ⟨#[], #[.int .i64 0, .int .i64 0, .int .i64 0, .int .i64 0], []⟩ 8 (by kernel_rfl) (by kernel_rfl) (by kernel_rfl) (by kernel_rfl)) ?_
  intro W base args ds gs before hval0 hW hcnd _
  have hval : ∀ (j : Nat) t v, Try.f4.params[j]? = some t → args[j]? = some v → Value.okWide Try.prog W .any base t v := hval0
  have hW' := hW
  obtain ⟨p, q, hA0, hV, rfl, hfz, hnd⟩ := hW
  have hA : DataW.TrodAll enc Try.prog W 0 (fun _ => true) true Try.f4.params.toList args.toList ds p := hA0
  rw [Try.params4] at hA hval
  obtain ⟨v0, vs0, d0, ds0, p0, q0, hargs, rfl, rfl, h0, r0⟩ := trodAll_cons hA
  obtain ⟨v1, vs1, d1, ds1, p1, q1, rfl, rfl, rfl, h1, r1⟩ := trodAll_cons r0
  obtain ⟨v2, vs2, d2, ds2, p2, q2, rfl, rfl, rfl, h2, r2⟩ := trodAll_cons r1
  obtain ⟨v3, vs3, d3, ds3, p3, q3, rfl, rfl, rfl, h3, r3⟩ := trodAll_cons r2
  obtain ⟨rfl, rfl, rfl⟩ := trodAll_nil r3
  obtain rfl : args = #[v0, v1, v2, v3] := by cases args; simp_all
  obtain ⟨rfl, rfl⟩ := trodVars_none hV
  obtain ⟨a0, rfl, rfl, rfl, w0⟩ := open_int Try.underlying2 (hval 0 2 v0 rfl rfl) h0
  obtain ⟨a1, rfl, rfl, rfl, w1⟩ := open_int Try.underlying2 (hval 1 2 v1 rfl rfl) h1
  obtain ⟨a2, rfl, rfl, rfl, w2⟩ := open_int Try.underlying2 (hval 2 2 v2 rfl rfl) h2
  obtain ⟨a3, rfl, rfl, rfl, w3⟩ := open_int Try.underlying2 (hval 3 2 v3 rfl rfl) h3
  clear hA0 hval0
  simp only [List.append_nil] at hW'
  refine (walk a0 a1 a2 a3 w0 w1 w2 w3 W).mono fun e W' ⟨he, hg⟩ => ?_
  subst he
  exact ⟨_, rfl, post_of_same (pa := []) (pv := []) hW' (fun _ _ _ => (trodAll_cons_mk (shut_bool Try.underlying4 _) trodAll_mk0)) (fun sp _ => (trodAll_cons_mk (shut_int Try.underlying2 w0) (trodAll_cons_mk (shut_int Try.underlying2 w1) (trodAll_cons_mk (shut_int Try.underlying2 w2) (trodAll_cons_mk (shut_int Try.underlying2 w3) trodAll_mk0))))) (fun _ _ => rfl) rfl
    (hg.frame _) hg.2.1 (ok_one (by kernel_rfl) rfl (okWide_bool_mk Try.underlying4 _))⟩

theorem over : Rows.fnTallyDenialOneTokenMoreRow.holds Try.pinned (OpenSpec.ofChange Rows.fnTallyDenialOneTokenMoreSpec) :=
  OpenClaim.holds_of_wide 4 Try.f4 rfl rfl rfl rfl rfl rfl rfl ⟨rfl, rfl, rfl, rfl, rfl⟩ rfl rfl rfl rfl rfl (by kernel_rfl) Try.func4 (by kernel_rfl)
    (of_decide_eq_true (by kernel_rfl)) (by unfold Func.isWrapper; first | (rw [if_pos (by decide +kernel)]; kernel_rfl) | (rw [if_neg (by decide +kernel)]; exact ⟨rfl, rfl⟩))
    (fun os started H enc _ => lifted os started H enc)

/-- ████ THE STATEMENT ████ -/
theorem proved : Rows.FnTallyDenialOneTokenMoreSaid :=
  over
#print axioms proved
end Go.Proofs.Qxb6609109a.fnTallyDenialOneTokenMore
