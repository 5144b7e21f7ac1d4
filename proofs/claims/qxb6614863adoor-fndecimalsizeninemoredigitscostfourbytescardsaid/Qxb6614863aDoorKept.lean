/-
  'Kept w w'': w' is w with new blocks behind it and draws made; nothing that was there has turned, nothing is frozen anew ('Below' and 'Grown' of the library in one word).
-/
import Derived.RowKit3
import Derived.Below
namespace Go.Proofs.Qxb6614863aDoor
open Go.RowKit

structure Kept (w w' : World) : Prop where
  below : Below w.heap.size w w'
  frozen : ∀ a, w'.frozen? a = w.frozen? a

theorem Kept.refl (w : World) : Kept w w := ⟨Below.refl _ _, fun _ => rfl⟩
theorem Kept.trans {a b c : World} (h : Kept a b) (k : Kept b c) : Kept a c :=
  ⟨h.below.trans (k.below.mono h.below.size), fun x => (k.frozen x).trans (h.frozen x)⟩
theorem Kept.drew {a b : World} (h : Kept a b) : Kept a b.drew := ⟨h.below.drew, h.frozen⟩
theorem Kept.alloc {a b : World} (h : Kept a b) (c : Array Value) (t : TypeId) : Kept a (b.alloc (.cells c t)) :=
  ⟨h.below.alloc h.below.size _, fun x => (frozen?_alloc_cells _ _ _ x).trans (h.frozen x)⟩
theorem Kept.setCell {a b : World} (h : Kept a b) {p : Addr} (hp : a.heap.size ≤ p.block) (v : Value) : Kept a (b.setCell p v) :=
  ⟨h.below.setCell hp v, fun x => (World.frozen?_setCell _ _ _ _).trans (h.frozen x)⟩
theorem Kept.grown {a b : World} (h : Kept a b) : Grown a b := ⟨h.below.frame _, h.frozen, h.below.size⟩
theorem Kept.cells {a b : World} (h : Kept a b) : ∀ k o, k < a.heap.size → b.cell? ⟨k, o, none⟩ = a.cell? ⟨k, o, none⟩ :=
  fun k o hk => h.below.cell (p := ⟨k, o, none⟩) hk
end Go.Proofs.Qxb6614863aDoor
