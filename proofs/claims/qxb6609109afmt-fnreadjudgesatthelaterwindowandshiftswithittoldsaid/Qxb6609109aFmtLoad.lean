import Derived.Test.Qxb6609109aFmtPlace
set_option linter.unusedVariables false
namespace Go.Proofs.Qxb6609109aFmt
open Go.RowKit

theorem Mt.put3 {w : World} {b : Nat} {o0 o1 o2 o3 o4 o5 o6 : Value} (h : Mt w b o0 o1 o2 o3 o4 o5 o6) (v4 v5 v6 : Value) :
    Mt (((w.setCell ⟨b, 4, none⟩ v4).setCell ⟨b, 5, none⟩ v5).setCell ⟨b, 6, none⟩ v6) b o0 o1 o2 o3 v4 v5 v6 := by
  obtain ⟨hb, c0, c1, c2, c3, c4, c5, c6, fr⟩ := h
  refine ⟨by simpa [World.setCell] using hb, ?_, ?_, ?_, ?_, ?_, ?_, ?_, fun i => ?_⟩
  all_goals simp [go_sem, c0, c1, c2, c3, c4, c5, c6, fr]
theorem Mt.put2 {w : World} {b : Nat} {o0 o1 o2 o3 o4 o5 o6 : Value} (h : Mt w b o0 o1 o2 o3 o4 o5 o6) (v2 v3 : Value) :
    Mt ((w.setCell ⟨b, 2, none⟩ v2).setCell ⟨b, 3, none⟩ v3) b o0 o1 v2 v3 o4 o5 o6 := by
  obtain ⟨hb, c0, c1, c2, c3, c4, c5, c6, fr⟩ := h
  refine ⟨by simpa [World.setCell] using hb, ?_, ?_, ?_, ?_, ?_, ?_, ?_, fun i => ?_⟩
  all_goals simp [go_sem, c0, c1, c2, c3, c4, c5, c6, fr]

set_option maxHeartbeats 400000 in
theorem count_now (bm bw : Nat) (now A B cw cc cp r1 r2 : Int) (o4 o5 o6 : Value) (w : World) (hm : Mt w bm (.pointer (some ⟨bw, 0, none⟩)) (.int .i64 now) (.int .i64 A) (.int .i64 B) o4 o5 o6)
    (a1 : -9223372036854775808 ≤ cw) (a2 : cw ≤ 9223372036854775807) (b1 : -9223372036854775808 ≤ A) (b2 : A ≤ 9223372036854775807) (hwi : Hid (WI cw cc cp A r1 r2 false)) :
    Calls Tryf.prog 29 #[.pointer (some ⟨bm, 0, none⟩), .agg #[.int .i64 cw, .int .i64 cc, .int .i64 cp]] w fun e w' => e = .returned (.tuple #[]) ∧ KeptBut bm w w' ∧ Mt w' bm (.pointer (some ⟨bw, 0, none⟩)) (.int .i64 now) (.int .i64 A) (.int .i64 B) (.int .i64 r1) (.int .i64 r2) (.bool false) := by
  obtain ⟨hb, c0, c1, c2, c3, c4, c5, c6, fr⟩ := hm
  have HF : Hid (∀ i, w.frozen? ⟨bm, i, none⟩ = false) := fr
  have i0 := World.new_ne w _ c0
  have hb1 : bm < w.heap.size + 1 := by omega
  go_enter Tryf.func29, Tryf.ntmps29
  go_wp2
  go_region_held3 (fun w' => w'.cell? ⟨w.heap.size, 0, none⟩ = some (.int .i64 cw) ∧ w'.cell? ⟨w.heap.size, 1, none⟩ = some (.int .i64 cc) ∧ w'.cell? ⟨w.heap.size, 2, none⟩ = some (.int .i64 cp) ∧ w'.cell? ⟨bm, 2, none⟩ = some (.int .i64 A)) (simp [go_sem, *])
    ((go_at_call 33; refine (weighed_any cw cc cp A r1 r2 false _ a1 a2 b1 b2 hwi.out).mono ?_; rintro e w1 ⟨rfl, hk⟩; have hc := hk.cells; have hf := hk.frozen))
  go_wp2
  go_end0
  refine ⟨rfl, ((((((Kept.refl w).alloc _ _).drew.trans hk).but.setCell _ _).setCell _ _).setCell _ _), ?_⟩
  have hm1 : Mt w1 bm (.pointer (some ⟨bw, 0, none⟩)) (.int .i64 now) (.int .i64 A) (.int .i64 B) o4 o5 o6 := Mt.kept ⟨hb, c0, c1, c2, c3, c4, c5, c6, HF.out⟩ (((Kept.refl w).alloc _ _).drew.trans hk)
  exact hm1.put3 _ _ _

set_option maxHeartbeats 400000 in
theorem count_late (bm bw : Nat) (C P now A B cw cc cp r1 r2 : Int) (o4 o5 o6 : Value) (w : World) (hm : Mt w bm (.pointer (some ⟨bw, 0, none⟩)) (.int .i64 now) (.int .i64 A) (.int .i64 B) o4 o5 o6)
    (hwb : bw < w.heap.size) (hwp : w.cell? ⟨bw, 1, none⟩ = some (.int .i64 P)) (hne : bw ≠ bm)
    (a1 : -9223372036854775808 ≤ cw) (a2 : cw ≤ 9223372036854775807) (b1 : -9223372036854775808 ≤ A) (b2 : A ≤ 9223372036854775807) (hwi : Hid (WI cw cc cp A r1 r2 true)) :
    Calls Tryf.prog 29 #[.pointer (some ⟨bm, 0, none⟩), .agg #[.int .i64 cw, .int .i64 cc, .int .i64 cp]] w fun e w' => e = .returned (.tuple #[]) ∧ KeptBut bm w w' ∧ Mt w' bm (.pointer (some ⟨bw, 0, none⟩)) (.int .i64 now) (.int .i64 cw) (.int .i64 P) (.int .i64 r1) (.int .i64 r2) (.bool true) := by
  obtain ⟨hb, c0, c1, c2, c3, c4, c5, c6, fr⟩ := hm
  have HF : Hid (∀ i, w.frozen? ⟨bm, i, none⟩ = false) := fr
  have i0 := World.new_ne w _ c0
  have hb1 : bm < w.heap.size + 1 := by omega
  have hb2 : bw < w.heap.size + 1 := by omega
  have hne' := Ne.symm hne
  go_enter Tryf.func29, Tryf.ntmps29
  go_wp2
  go_region_held3 (fun w' => w'.cell? ⟨w.heap.size, 0, none⟩ = some (.int .i64 cw) ∧ w'.cell? ⟨w.heap.size, 1, none⟩ = some (.int .i64 cc) ∧ w'.cell? ⟨w.heap.size, 2, none⟩ = some (.int .i64 cp) ∧ w'.cell? ⟨bm, 2, none⟩ = some (.int .i64 A)) (simp [go_sem, *])
    ((go_at_call 33; refine (weighed_any cw cc cp A r1 r2 true _ a1 a2 b1 b2 hwi.out).mono ?_; rintro e w1 ⟨rfl, hk⟩; have hc := hk.cells; have hf := hk.frozen))
  go_wp2
  go_region_held3 (fun w' => w'.cell? ⟨w.heap.size, 0, none⟩ = some (.int .i64 cw) ∧ w'.cell? ⟨bm, 0, none⟩ = some (.pointer (some ⟨bw, 0, none⟩)) ∧ w'.cell? ⟨bw, 1, none⟩ = some (.int .i64 P)) (simp [go_sem, *]) (fail)
  go_wp2
  go_end0
  have hk0 := ((Kept.refl w).alloc #[.int .i64 cw, .int .i64 cc, .int .i64 cp] 72).drew.trans hk
  refine ⟨rfl, (((((hk0.but.setCell _ _).setCell _ _).setCell _ _).setCell _ _).setCell _ _).drew, ?_⟩
  have hm1 : Mt w1 bm (.pointer (some ⟨bw, 0, none⟩)) (.int .i64 now) (.int .i64 A) (.int .i64 B) o4 o5 o6 := Mt.kept ⟨hb, c0, c1, c2, c3, c4, c5, c6, HF.out⟩ hk0
  exact ((hm1.put3 _ _ _).put2 _ _).kept (Kept.refl _).drew

theorem count_any (bm bw : Nat) (C P now A B cw cc cp r1 r2 : Int) (r3 : Bool) (o4 o5 o6 : Value) (w : World) (hm : Mt w bm (.pointer (some ⟨bw, 0, none⟩)) (.int .i64 now) (.int .i64 A) (.int .i64 B) o4 o5 o6)
    (hw : Ws w bw C P) (hne : bw ≠ bm)
    (a1 : -9223372036854775808 ≤ cw) (a2 : cw ≤ 9223372036854775807) (b1 : -9223372036854775808 ≤ A) (b2 : A ≤ 9223372036854775807) (hwi : WI cw cc cp A r1 r2 r3) :
    Calls Tryf.prog 29 #[.pointer (some ⟨bm, 0, none⟩), .agg #[.int .i64 cw, .int .i64 cc, .int .i64 cp]] w fun e w' => e = .returned (.tuple #[]) ∧ KeptBut bm w w' ∧ Mt w' bm (.pointer (some ⟨bw, 0, none⟩)) (.int .i64 now) (.int .i64 (if r3 = true then cw else A)) (.int .i64 (if r3 = true then P else B)) (.int .i64 r1) (.int .i64 r2) (.bool r3) := by
  cases r3
  · exact count_now bm bw now A B cw cc cp r1 r2 o4 o5 o6 w hm a1 a2 b1 b2 hwi
  · exact count_late bm bw C P now A B cw cc cp r1 r2 o4 o5 o6 w hm hw.hb hw.e1 hne a1 a2 b1 b2 hwi

set_option maxHeartbeats 400000 in
theorem load_any (bm bw : Nat) (C P now cw cc cp r1 r2 W L : Int) (r3 : Bool) (o0 o1 o2 o3 o4 o5 o6 : Value) (w : World) (hw : Ws w bw C P) (hm : Mt w bm o0 o1 o2 o3 o4 o5 o6) (hne : bw ≠ bm)
    (p0 : 1 ≤ P) (p1 : P ≤ 9223372036854775807) (n1 : -9223372036854775808 ≤ now) (n2 : now < 9223372036854775808)
    (a1 : -9223372036854775808 ≤ cw) (a2 : cw ≤ 9223372036854775807) (hwi : WI cw cc cp (now / P) r1 r2 r3) (hW : (if r3 = true then cw else now / P) = W) (hL : (if r3 = true then P else P - now % P) = L) :
    Calls Tryf.prog 24 #[.pointer (some ⟨bm, 0, none⟩), .pointer (some ⟨bw, 0, none⟩), .agg #[.int .i64 cw, .int .i64 cc, .int .i64 cp], .int .i64 now] w fun e w' => e = .returned (.tuple #[]) ∧ KeptBut bm w w' ∧ Mt w' bm (.pointer (some ⟨bw, 0, none⟩)) (.int .i64 now) (.int .i64 W) (.int .i64 L) (.int .i64 r1) (.int .i64 r2) (.bool r3) := by
  have hr := ediv_range now P p0 n1 n2
  have hbm := hm.hb
  have i0 := World.new_ne w _ hm.c0
  have HW : Hid ((if r3 = true then cw else now / P) = W) := hW
  have HL : Hid ((if r3 = true then P else P - now % P) = L) := hL
  clear hW hL
  have k0 : Kept w (w.alloc (.cells #[.int .i64 cw, .int .i64 cc, .int .i64 cp] 72)) := (Kept.refl w).alloc _ _
  have HP := place_any bm bw C P now o0 o1 o2 o3 o4 o5 o6 _ (hw.kept k0) (hm.kept k0) p0 p1 n1 n2
  have HPh : Hid (Calls Tryf.prog 28 #[.pointer (some ⟨bm, 0, none⟩), .pointer (some ⟨bw, 0, none⟩), .int .i64 now] (w.alloc (.cells #[.int .i64 cw, .int .i64 cc, .int .i64 cp] 72)) fun e w' => e = .returned (.tuple #[]) ∧ KeptBut bm (w.alloc (.cells #[.int .i64 cw, .int .i64 cc, .int .i64 cp] 72)) w' ∧ Mt w' bm (.pointer (some ⟨bw, 0, none⟩)) (.int .i64 now) (.int .i64 (now / P)) (.int .i64 (P - now % P)) (.int .i64 0) (.int .i64 0) (.bool false)) := HP
  have Hw : Hid (Ws w bw C P) := hw
  clear HP hw hm
  go_enter Tryf.func24, Tryf.ntmps24
  go_wp2_with fail
  refine (HPh.out).mono ?_
  rintro e w1 ⟨rfl, hk1, hm1⟩
  have hc := hk1.cells
  go_wp2_with fail
  refine (count_any bm bw C P now _ _ cw cc cp r1 r2 r3 _ _ _ _ hm1 ((Hw.out.kept k0).keptBut hk1 hne) hne a1 a2 (by omega) (by omega) hwi).mono ?_
  rintro e w2 ⟨rfl, hk2, hm2⟩
  rw [HW.out, HL.out] at hm2
  go_wp2
  go_end0
  exact ⟨rfl, (k0.but.trans hk1).trans hk2, hm2⟩
end Go.Proofs.Qxb6609109aFmt
