import Derived.Test.Qxb6614997aRows
import Derived.WalkKit
import Derived.WalkSpells
import Derived.WalkLawsBesides
namespace Go.Proofs.Qxb6614997a
open Go.RowKit

/-- Block g is the row xs (of element type e), whole and not frozen. -/
def RowAt (w : World) (g e : Nat) (xs : List Value) : Prop := w.heap[g]? = some (.cells xs.toArray e (0, 0))
theorem RowAt.cell {w : World} {g e : Nat} {xs : List Value} (h : RowAt w g e xs) (j : Nat) : w.cell? ⟨g, j, none⟩ = xs[j]? := by
  rw [cell_of_row w g j _ e (0, 0) h]; simp
theorem RowAt.free {w : World} {g e : Nat} {xs : List Value} (h : RowAt w g e xs) (j : Nat) : w.frozen? ⟨g, j, none⟩ = false := frozen_of_row w g j _ e h
theorem RowAt.lt {w : World} {g e : Nat} {xs : List Value} (h : RowAt w g e xs) : g < w.heap.size := lt_of_block h
theorem RowAt.store {w : World} {g e : Nat} {xs : List Value} (h : RowAt w g e xs) (j : Nat) (v : Value) : RowAt (w.setCell ⟨g, j, none⟩ v) g e (xs.set j v) := by
  have := heap_setCell_same w g j _ e v h
  unfold RowAt
  rw [this]
  simp
theorem RowAt.other {w : World} {g e g' j : Nat} {xs : List Value} (h : RowAt w g e xs) (hne : g ≠ g') (v : Value) : RowAt (w.setCell ⟨g', j, none⟩ v) g e xs := by
  unfold RowAt
  rw [heap_setCell_other w ⟨g', j, none⟩ g v hne]; exact h
theorem RowAt.below {w w' : World} {B g e : Nat} {xs : List Value} (h : RowAt w g e xs) (hb : Below B w w') (hg : g < B) : RowAt w' g e xs := by
  unfold RowAt
  rw [hb.block g hg]; exact h
theorem RowAt.some {w : World} {g e : Nat} {xs : List Value} (_h : RowAt w g e xs) (j : Nat) (hj : j < xs.length) : ∃ u, xs[j]? = Option.some u := ⟨xs[j], List.getElem?_eq_getElem hj⟩
/-- Out of an owned row: its block. -/
theorem row_block {w : World} {B e n : Nat} {xs : List Value} (h : w.ownsRow B e 1 (.slice (some ⟨B, 0, none⟩) n n) n xs) : RowAt w B e xs := by
  rcases h.2 with ⟨h', _⟩ | ⟨g', cap', cur, h', _, hg, _, _, hcs, htake⟩
  · simp at h'
  · simp only [Value.slice.injEq, Option.some.injEq, Addr.mk.injEq, and_true, true_and] at h'
    obtain ⟨rfl, rfl⟩ := h'
    unfold RowAt
    rw [hg, ← htake, List.take_of_length_le (by simp [hcs])]
end Go.Proofs.Qxb6614997a
