import Derived.WalkKit
import Derived.ProofKit
import Derived.Below
import Derived.Deep.Draws
namespace Go.Proofs.Qxb6604717aDoor
open Go.RowKit

/-- Block g is a row of cells of type e, none frozen, that holds xs. -/
def RowAt (w : World) (g : Nat) (e : TypeId) (xs : List Value) : Prop := w.heap[g]? = some (.cells xs.toArray e (0, 0))

theorem RowAt.lt {w : World} {g : Nat} {e : TypeId} {xs : List Value} (h : RowAt w g e xs) : g < w.heap.size := (Array.getElem?_eq_some_iff.1 h).1
theorem RowAt.cell {w : World} {g : Nat} {e : TypeId} {xs : List Value} (h : RowAt w g e xs) (j : Nat) : w.cell? ⟨g, j, none⟩ = xs[j]? := by
  rw [cell_of_row w g j _ e (0, 0) h]; simp
theorem RowAt.frozen {w : World} {g : Nat} {e : TypeId} {xs : List Value} (h : RowAt w g e xs) (j : Nat) : w.frozen? ⟨g, j, none⟩ = false :=
  frozen_of_row w g j _ e h
theorem RowAt.set {w : World} {g : Nat} {e : TypeId} {xs : List Value} (h : RowAt w g e xs) (j : Nat) (u : Value) : RowAt (w.setCell ⟨g, j, none⟩ u) g e (xs.set j u) := by
  have := heap_setCell_same w g j _ e u h
  simpa [RowAt] using this
theorem RowAt.setOther {w : World} {g : Nat} {e : TypeId} {xs : List Value} (h : RowAt w g e xs) (a : Addr) (u : Value) (hne : g ≠ a.block) : RowAt (w.setCell a u) g e xs := by
  unfold RowAt
  rw [heap_setCell_other w a g u hne]; exact h
theorem RowAt.alloc {w : World} {g : Nat} {e : TypeId} {xs : List Value} (h : RowAt w g e xs) (o : Obj) : RowAt (w.alloc o) g e xs := by
  unfold RowAt
  rw [Below.heap_alloc w o g h.lt]; exact h
theorem RowAt.below {B : Nat} {w w' : World} {g : Nat} {e : TypeId} {xs : List Value} (h : RowAt w g e xs) (hb : Below B w w') (hg : g < B) : RowAt w' g e xs := by
  unfold RowAt
  rw [hb.block g hg]; exact h
theorem RowAt.drewN {w : World} {g : Nat} {e : TypeId} {xs : List Value} (h : RowAt w g e xs) (n : Nat) : RowAt (w.drewN n) g e xs := h

theorem below_dr {B : Nat} {a w : World} (h : Below B a w) (n : Nat) : Below B a (w.drewN n) := h.trans ⟨rfl, rfl, rfl, Nat.le_refl _, fun _ _ => rfl⟩

end Go.Proofs.Qxb6604717aDoor
