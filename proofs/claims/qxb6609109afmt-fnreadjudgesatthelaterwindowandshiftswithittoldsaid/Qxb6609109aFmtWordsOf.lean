import Derived.Test.Qxb6609109aFmtRead
import Derived.Laws.MakeOwn
set_option linter.unusedVariables false
namespace Go.Proofs.Qxb6609109aFmt
open Go.RowKit Go.Extern.Stop Go.Stop Go.Extern

theorem info32 : (Tryf.prog.info? 32).map (fun i => (i.zero, i.size, i.bytes)) = some (some (.agg #[.int .u64 0, .int .u64 0]), 2, 16) := by kernel_rfl

theorem make_words (n : Nat) (hn : n ≤ 4096) (w : World) : (Instr.makeSlice 33 (.int .i64 n) (.int .i64 n)).run Tryf.prog w = .ok (.slice (some ⟨w.heap.size, 0, none⟩) n n) (w.alloc (.cells (madeCells #[.int .u64 0, .int .u64 0] (n * 2)) 32)) := by
  have hinfo := info32
  cases hi : Tryf.prog.info? 32 with
  | none => rw [hi] at hinfo; cases hinfo
  | some i =>
    rw [hi] at hinfo
    simp only [Option.map_some, Option.some.injEq, Prod.mk.injEq] at hinfo
    obtain ⟨h1, h2, h3⟩ := hinfo
    have := run_make (P := Tryf.prog) w 33 32 i _ Tryf.underlying33 hi h1 .i64 .i64 n n (by omega) (by omega) (by rw [h3]; omega) (by omega)
    rw [h2, Int.toNat_natCast] at this
    exact this

/-- After k rounds of wordsOf: block w.heap.size holds k words. -/
structure Fill (w wr : World) (n k : Nat) (hf lf : Nat → Int) : Prop where
  kept : Kept w wr
  gs : w.heap.size < wr.heap.size
  done0 : ∀ j, j < k → wr.cell? ⟨w.heap.size, j * 2, none⟩ = some (.int .u64 (hf j))
  done1 : ∀ j, j < k → wr.cell? ⟨w.heap.size, j * 2 + 1, none⟩ = some (.int .u64 (lf j))
  left0 : ∀ j, k ≤ j → j < n → ∃ v, wr.cell? ⟨w.heap.size, j * 2, none⟩ = some v
  left1 : ∀ j, k ≤ j → j < n → ∃ v, wr.cell? ⟨w.heap.size, j * 2 + 1, none⟩ = some v
  fr : ∀ i, wr.frozen? ⟨w.heap.size, i, none⟩ = false

theorem Fill.start (w : World) (n : Nat) (hf lf : Nat → Int) : Fill w (w.alloc (.cells (madeCells #[.int .u64 0, .int .u64 0] (n * 2)) 32)) n 0 hf lf := by
  have hs := size_madeCells #[.int .u64 0, .int .u64 0] (n * 2)
  have ex : ∀ i, i < n * 2 → ∃ v, (w.alloc (.cells (madeCells #[.int .u64 0, .int .u64 0] (n * 2)) 32)).cell? ⟨w.heap.size, i, none⟩ = some v := by
    intro i hi
    rw [World.cell?_alloc_at (hn := rfl)]
    exact ⟨_, Array.getElem?_eq_getElem (by rw [hs]; exact hi)⟩
  exact ⟨(Kept.refl w).alloc _ _, by simp, fun j hj => absurd hj (Nat.not_lt_zero _), fun j hj => absurd hj (Nat.not_lt_zero _), fun j _ hj => ex _ (by omega), fun j _ hj => ex _ (by omega), fun i => World.frozen?_alloc_at _ _ _ i rfl⟩

theorem addr_ne (g i j : Nat) (h : i ≠ j) : (⟨g, i, none⟩ : Addr) ≠ ⟨g, j, none⟩ := by
  intro e; cases e; exact h rfl

theorem set_other (w : World) (g i j : Nat) (v : Value) (h : i ≠ j) : (w.setCell ⟨g, i, none⟩ v).cell? ⟨g, j, none⟩ = w.cell? ⟨g, j, none⟩ := by
  apply World.cell?_setCell_other; exact addr_ne g i j h
theorem set_same (w : World) (g i : Nat) (v u : Value) (h : w.cell? ⟨g, i, none⟩ = some u) : (w.setCell ⟨g, i, none⟩ v).cell? ⟨g, i, none⟩ = some v := by
  apply World.cell?_setCell_same (u := u); exact h

theorem Fill.step {w wr : World} {n k : Nat} {hf lf : Nat → Int} (h : Fill w wr n k hf lf) (hk : k < n) :
    Fill w ((wr.setCell ⟨w.heap.size, k * 2, none⟩ (.int .u64 (hf k))).setCell ⟨w.heap.size, k * 2 + 1, none⟩ (.int .u64 (lf k))).drew n (k + 1) hf lf := by
  obtain ⟨v, hv⟩ := h.left0 k (Nat.le_refl _) hk
  obtain ⟨v', hv'⟩ := h.left1 k (Nat.le_refl _) hk
  refine ⟨((h.kept.setCell (Nat.le_refl _) _).setCell (Nat.le_refl _) _).drew, by have := h.gs; simpa [World.setCell] using this, fun j hj => ?_, fun j hj => ?_, fun j h1 h2 => ?_, fun j h1 h2 => ?_, fun i => ?_⟩
  · rw [World.cell?_drew, set_other _ _ _ _ _ (by omega)]
    by_cases e : j = k
    · subst e; exact set_same _ _ _ _ _ hv
    · rw [set_other _ _ _ _ _ (by omega)]; exact h.done0 j (by omega)
  · rw [World.cell?_drew]
    by_cases e : j = k
    · subst e
      refine set_same _ _ _ _ v' ?_
      rw [set_other _ _ _ _ _ (by omega)]; exact hv'
    · rw [set_other _ _ _ _ _ (by omega), set_other _ _ _ _ _ (by omega)]; exact h.done1 j (by omega)
  · rw [World.cell?_drew, set_other _ _ _ _ _ (by omega), set_other _ _ _ _ _ (by omega)]; exact h.left0 j (by omega) h2
  · rw [World.cell?_drew, set_other _ _ _ _ _ (by omega), set_other _ _ _ _ _ (by omega)]; exact h.left1 j (by omega) h2
  · rw [World.frozen?_drew, World.frozen?_setCell, World.frozen?_setCell]; exact h.fr i

set_option maxHeartbeats 400000 in
theorem words_any (b1 o1 c1 b2 o2 c2 n : Nat) (hf lf : Nat → Int) (w : World) (n0 : 1 ≤ n) (n1 : n ≤ 4096) (hb1 : b1 < w.heap.size) (hb2 : b2 < w.heap.size)
    (h1 : ∀ i, i < n → w.cell? ⟨b1, o1 + i, none⟩ = some (.int .u64 (hf i))) (h2 : ∀ i, i < n → w.cell? ⟨b2, o2 + i, none⟩ = some (.int .u64 (lf i))) :
    Calls Tryf.prog 13 #[.slice (some ⟨b1, o1, none⟩) n c1, .slice (some ⟨b2, o2, none⟩) n c2] w fun e w' => e = .returned (.slice (some ⟨w.heap.size, 0, none⟩) n n) ∧ Fill w w' n n hf lf := by
  have hmk := make_words n n1 w
  have H1 : Hid (∀ i, i < n → w.cell? ⟨b1, o1 + i, none⟩ = some (.int .u64 (hf i))) := h1
  have H2 : Hid (∀ i, i < n → w.cell? ⟨b2, o2 + i, none⟩ = some (.int .u64 (lf i))) := h2
  clear h1 h2
  go_enter Tryf.func13, Tryf.ntmps13
  go_wp2
  go_loopw [6] (fun t wr => ∃ k : Nat, k ≤ n ∧ t = .int .i64 k ∧ Fill w wr n k hf lf) (fun t _ => n - (intOf t).toNat)
  case atStart => exact ⟨0, Nat.zero_le _, rfl, Fill.start w n hf lf⟩
  case round =>
    obtain ⟨k, hk, rfl, hfill⟩ := hrel
    obtain ⟨kk, gs, d0, d1, f0, f1, fr⟩ := hfill
    by_cases hlt : k < n
    · obtain ⟨v, hv⟩ := f0 k (Nat.le_refl _) hlt
      obtain ⟨v', hv'⟩ := f1 k (Nat.le_refl _) hlt
      have e1 : wr.cell? ⟨b1, o1 + k, none⟩ = some (.int .u64 (hf k)) := (kk.cells _ _ hb1).trans (H1.out k hlt)
      have e2 : wr.cell? ⟨b2, o2 + k, none⟩ = some (.int .u64 (lf k)) := (kk.cells _ _ hb2).trans (H2.out k hlt)
      have kz : (0 : Int) ≤ (k : Int) := by omega
      have kn : (k : Int) < (n : Int) := by omega
      have g1 : w.heap.size ≠ b1 := by omega
      have g2 : w.heap.size ≠ b2 := by omega
      have fr0 := fr (k * 2)
      have fr1 := fr (k * 2 + 1)
      have D : Hid (Fill w wr n k hf lf) := ⟨kk, gs, d0, d1, f0, f1, fr⟩
      clear d0 d1 f0 f1 fr kk
      go_wp2
      go_region_held3 (fun w' => w'.cell? ⟨b1, o1 + k, none⟩ = some (.int .u64 (hf k)) ∧ w'.cell? ⟨b2, o2 + k, none⟩ = some (.int .u64 (lf k))) (simp [go_sem, *]) (fail)
      go_wp2
      refine ⟨⟨k + 1, by omega, by go_num, D.out.step hlt⟩, ?_⟩
      simp [intOf]; omega
    · have D : Hid (Fill w wr n k hf lf) := ⟨kk, gs, d0, d1, f0, f1, fr⟩
      have ek : k = n := by omega
      subst ek
      clear d0 d1 f0 f1 fr kk
      go_wp2
      go_ret
      exact ⟨rfl, D.out⟩
end Go.Proofs.Qxb6609109aFmt
