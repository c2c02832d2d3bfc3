/-
  MEMORY OF ONE'S OWN: 'Own w g xs': block g is a row of uint64 cells, just the numbers xs, not frozen. No program in sight.
-/
import Derived.WalkKit
namespace Go.Proofs.Qxb6602480a
open Go.RowKit

/-- Block g holds just the words xs. -/
def Own (w : World) (g : Nat) (xs : List Int) : Prop := w.heap[g]? = some (.cells (xs.map (Value.int .u64)).toArray 30 (0, 0))

/-- The first words at ⟨b, off⟩ read as xs. -/
def Reads (w : World) (b off : Nat) (xs : List Int) : Prop := ∀ j, j < xs.length → w.cell? ⟨b, off + j, none⟩ = some (.int .u64 (xs.getD j 0))

theorem Own.lt {w : World} {g : Nat} {xs : List Int} (h : Own w g xs) : g < w.heap.size := by
  unfold Own at h
  rcases Nat.lt_or_ge g w.heap.size with h' | h'
  · exact h'
  · rw [Array.getElem?_eq_none h'] at h; cases h

theorem Own.cell {w : World} {g : Nat} {xs : List Int} (h : Own w g xs) (j : Nat) (hj : j < xs.length) : w.cell? ⟨g, j, none⟩ = some (.int .u64 (xs.getD j 0)) := by
  have := cell_of_row w g j _ 30 (0, 0) h
  rw [this]
  simp [hj]

theorem Own.frozen {w : World} {g : Nat} {xs : List Int} (h : Own w g xs) (j : Nat) : w.frozen? ⟨g, j, none⟩ = false := frozen_of_row w g j _ 30 h

theorem Own.reads {w : World} {g : Nat} {xs : List Int} (h : Own w g xs) : Reads w g 0 xs := fun j hj => by simpa using h.cell j hj

theorem Own.set {w : World} {g : Nat} {xs : List Int} (h : Own w g xs) (j : Nat) (z : Int) : Own (w.setCell ⟨g, j, none⟩ (.int .u64 z)) g (xs.set j z) := by
  unfold Own at *
  have := heap_setCell_same w g j _ 30 (.int .u64 z) h
  rw [this]
  congr 2
  apply Array.ext'
  simp [List.map_set]

/-- A store into another block. -/
theorem Own.other {w : World} {g : Nat} {xs : List Int} (h : Own w g xs) (a : Addr) (v : Value) (hne : a.block ≠ g) : Own (w.setCell a v) g xs := by
  unfold Own at *
  rw [← h]
  exact Below.heap_setCell w a v g (fun e => hne e.symm)

theorem Own.of_block {w w' : World} {g : Nat} {xs : List Int} (h : Own w g xs) (e : w'.heap[g]? = w.heap[g]?) : Own w' g xs := e.trans h

theorem Own.below {w w' : World} {g B : Nat} {xs : List Int} (h : Own w g xs) (hb : Below B w w') (hg : g < B) : Own w' g xs := h.of_block (hb.block g hg)

theorem Own.drew {w : World} {g : Nat} {xs : List Int} (h : Own w g xs) : Own w.drew g xs := h

theorem Own.alloc {w : World} {g : Nat} {xs : List Int} (h : Own w g xs) (o : Obj) : Own (w.alloc o) g xs := h.of_block (Below.heap_alloc w o g h.lt)

theorem own_made (w : World) (n : Nat) : Own (w.alloc (.cells (madeCells (Value.int .u64 0).cells n) 30)) w.heap.size (List.replicate n 0) := by
  unfold Own
  rw [heap_alloc_new]
  congr 2
  apply Array.ext'
  rw [show (Value.int .u64 0).cells = #[Value.int .u64 0] from rfl, toList_madeCells_one]
  simp

theorem Reads.below {w w' : World} {b off B : Nat} {xs : List Int} (h : Reads w b off xs) (hb : Below B w w') (hg : b < B) : Reads w' b off xs :=
  fun j hj => (hb.cell (p := ⟨b, off + j, none⟩) hg).trans (h j hj)

end Go.Proofs.Qxb6602480a
