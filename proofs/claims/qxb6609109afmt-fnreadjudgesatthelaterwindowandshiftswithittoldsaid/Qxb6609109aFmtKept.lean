/-
  'Kept w w'': w' is w with new blocks behind it and draws made; nothing that was there has turned, nothing is frozen anew ('Below' and 'Grown' of the library in one word).
-/
import Derived.RowKit3
import Derived.Below
namespace Go.Proofs.Qxb6609109aFmt
open Go.RowKit

structure Kept (w w' : World) : Prop where
  below : Below w.heap.size w w'
  frozen : ∀ a, w'.frozen? a = w.frozen? a

theorem Kept.refl (w : World) : Kept w w := ⟨Below.refl _ _, fun _ => rfl⟩
theorem Kept.trans {a b c : World} (h : Kept a b) (k : Kept b c) : Kept a c :=
  ⟨h.below.trans (k.below.mono h.below.size), fun x => (k.frozen x).trans (h.frozen x)⟩
theorem Kept.drew {a b : World} (h : Kept a b) : Kept a b.drew := ⟨h.below.drew, h.frozen⟩
theorem Kept.alloc {a b : World} (h : Kept a b) (c : Array Value) (t : TypeId) : Kept a (b.alloc (.cells c t)) :=
  ⟨h.below.alloc h.below.size _, fun x => (frozen?_alloc_cells _ _ _ x).trans (h.frozen x)⟩
theorem Kept.setCell {a b : World} (h : Kept a b) {p : Addr} (hp : a.heap.size ≤ p.block) (v : Value) : Kept a (b.setCell p v) :=
  ⟨h.below.setCell hp v, fun x => (World.frozen?_setCell _ _ _ _).trans (h.frozen x)⟩
theorem Kept.grown {a b : World} (h : Kept a b) : Grown a b := ⟨h.below.frame _, h.frozen, h.below.size⟩
theorem Kept.cells {a b : World} (h : Kept a b) : ∀ k o, k < a.heap.size → b.cell? ⟨k, o, none⟩ = a.cell? ⟨k, o, none⟩ :=
  fun k o hk => h.below.cell (p := ⟨k, o, none⟩) hk

/-- 'KeptBut p w w'': as 'Kept', but the block p may have been written. -/
structure KeptBut (p : Nat) (w w' : World) : Prop where
  os : w'.os = w.os
  tape : w'.tape = w.tape
  output : w'.output = w.output
  size : w.heap.size ≤ w'.heap.size
  block : ∀ k, k < w.heap.size → k ≠ p → w'.heap[k]? = w.heap[k]?
  frozen : ∀ a, w'.frozen? a = w.frozen? a

theorem Kept.but {p : Nat} {a b : World} (h : Kept a b) : KeptBut p a b :=
  ⟨h.below.os, h.below.tape, h.below.output, h.below.size, fun k hk _ => h.below.block k hk, h.frozen⟩
theorem KeptBut.drew {p : Nat} {a b : World} (h : KeptBut p a b) : KeptBut p a b.drew := ⟨h.os, h.tape, h.output, h.size, h.block, h.frozen⟩
theorem KeptBut.setCell {p : Nat} {a b : World} (h : KeptBut p a b) (i : Nat) (v : Value) : KeptBut p a (b.setCell ⟨p, i, none⟩ v) :=
  ⟨h.os, h.tape, h.output, by have := h.size; simpa [World.setCell] using this, fun k hk hp => (Below.heap_setCell b ⟨p, i, none⟩ v k hp).trans (h.block k hk hp), fun x => (World.frozen?_setCell _ _ _ _).trans (h.frozen x)⟩
theorem KeptBut.trans {p : Nat} {a b c : World} (h : KeptBut p a b) (k : KeptBut p b c) : KeptBut p a c :=
  ⟨k.os.trans h.os, k.tape.trans h.tape, k.output.trans h.output, Nat.le_trans h.size k.size, fun i hi hp => (k.block i (Nat.lt_of_lt_of_le hi h.size) hp).trans (h.block i hi hp), fun x => (k.frozen x).trans (h.frozen x)⟩
theorem KeptBut.alloc {p : Nat} {a b : World} (h : KeptBut p a b) (c : Array Value) (t : TypeId) : KeptBut p a (b.alloc (.cells c t)) :=
  h.trans ((Kept.refl b).alloc c t).but
theorem KeptBut.cells {p : Nat} {a b : World} (h : KeptBut p a b) : ∀ k o, k < a.heap.size → k ≠ p → b.cell? ⟨k, o, none⟩ = a.cell? ⟨k, o, none⟩ :=
  fun k _ hk hp => World.cell?_of_block (w := a) (h.block k hk hp)
theorem KeptBut.into {p : Nat} {a b c : World} (h : Kept a b) (k : KeptBut p b c) (hp : a.heap.size ≤ p) : Kept a c :=
  ⟨⟨k.os.trans h.below.os, k.tape.trans h.below.tape, k.output.trans h.below.output, Nat.le_trans h.below.size k.size, fun i hi => (k.block i (Nat.lt_of_lt_of_le hi h.below.size) (by omega)).trans (h.below.block i hi)⟩, fun x => (k.frozen x).trans (h.frozen x)⟩
end Go.Proofs.Qxb6609109aFmt
