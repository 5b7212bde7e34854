/-
  A block that holds an array of sixteen ints: what it holds, what a store does to it. No Go text in sight.
-/
import Derived.WalkKit
import Derived.ProofKit
namespace Go.Proofs.Qxb6606422a
open Go.RowKit

/-- Sixteen numbers as an array's cells. -/
def cellsOf16 (f : Nat → Int) : Array Value := ((List.range 16).map (fun j => Value.int .i64 (f j))).toArray
theorem size16 (f : Nat → Int) : (cellsOf16 f).size = 16 := by simp [cellsOf16]
theorem get16 (f : Nat → Int) (j : Nat) (h : j < 16) : (cellsOf16 f)[j]? = some (.int .i64 (f j)) := by
  simp [cellsOf16, List.getElem?_range h]
theorem one16 (f : Nat → Int) : (cellsOf16 f).all (·.oneCell') = true := by
  simp only [cellsOf16, List.all_toArray, List.all_map]
  rfl

/-- f with v at l. -/
def upd (f : Nat → Int) (l : Nat) (v : Int) : Nat → Int := fun j => if j = l then v else f j
theorem set16 (f : Nat → Int) (l : Nat) (v : Int) : (cellsOf16 f).setIfInBounds l (.int .i64 v) = cellsOf16 (upd f l v) := by
  apply Array.ext_getElem?
  intro j
  by_cases hj : j < 16
  · rw [get16 _ j hj, Array.getElem?_setIfInBounds]
    by_cases e : l = j
    · subst e; simp [upd, size16, hj]
    · have e' : ¬ j = l := fun h => e h.symm
      simp [e, e', upd, get16 f j hj]
  · rw [Array.getElem?_eq_none (by simp [size16]; omega), Array.getElem?_eq_none (by simp [size16]; omega)]

/-- Block B holds the array f. -/
def Blk (w : World) (B : Nat) (f : Nat → Int) : Prop := w.heap[B]? = some (.cells (cellsOf16 f) 22 (0, 0))
theorem Blk.cell {w : World} {B : Nat} {f : Nat → Int} (h : Blk w B f) (j : Nat) (hj : j < 16) : w.cell? ⟨B, j, none⟩ = some (.int .i64 (f j)) := by
  rw [cell_of_row w B j _ 22 (0, 0) h, get16 f j hj]
theorem Blk.frozen {w : World} {B : Nat} {f : Nat → Int} (h : Blk w B f) (j : Nat) : w.frozen? ⟨B, j, none⟩ = false := by
  unfold Blk at h
  simp [World.frozen?, h]
theorem Blk.drew {w : World} {B : Nat} {f : Nat → Int} (h : Blk w B f) : Blk w.drew B f := h
theorem Blk.lt {w : World} {B : Nat} {f : Nat → Int} (h : Blk w B f) : B < w.heap.size := by
  rcases Nat.lt_or_ge B w.heap.size with h' | h'
  · exact h'
  · unfold Blk at h
    rw [Array.getElem?_eq_none h'] at h
    exact absurd h (by simp)
theorem Blk.set {w : World} {B : Nat} {f : Nat → Int} (h : Blk w B f) (l : Nat) (v : Int) : Blk (w.setCell ⟨B, l, none⟩ (.int .i64 v)) B (upd f l v) := by
  unfold Blk at *
  rw [setCell_eq_setRow w B l _ 22 (0, 0) _ h, setRow_heap w B _ _ 22 (0, 0) h, set16]
theorem blk_new (w : World) (f : Nat → Int) : Blk (w.alloc (.cells (cellsOf16 f) 22)) w.heap.size f := by
  show (w.heap.push _)[w.heap.size]? = _
  simp
theorem Blk.below {N : Nat} {w w' : World} {B : Nat} {f : Nat → Int} (h : Blk w B f) (hb : Below N w w') (hlt : B < N) : Blk w' B f := (hb.block B hlt).trans h

/-- But for block B, and the count of draws, w' is w. -/
structure Only (B : Nat) (w w' : World) : Prop where
  os : w'.os = w.os
  tape : w'.tape = w.tape
  output : w'.output = w.output
  size : w'.heap.size = w.heap.size
  block : ∀ k, k ≠ B → w'.heap[k]? = w.heap[k]?
theorem Only.refl (B : Nat) (w : World) : Only B w w := ⟨rfl, rfl, rfl, rfl, fun _ _ => rfl⟩
theorem Only.drew {B : Nat} {a w : World} (h : Only B a w) : Only B a w.drew := ⟨h.os, h.tape, h.output, h.size, h.block⟩
theorem Only.setCell {B : Nat} {a w : World} (h : Only B a w) (l : Nat) (v : Value) : Only B a (w.setCell ⟨B, l, none⟩ v) :=
  ⟨h.os, h.tape, h.output, by rw [World.size_setCell]; exact h.size, fun k hk => (Below.heap_setCell _ _ _ _ (by simpa using hk)).trans (h.block k hk)⟩
theorem Only.below {B N : Nat} {w w' : World} (h : Only B w w') (hN : N ≤ B) : Below N w w' :=
  ⟨h.os, h.tape, h.output, by rw [h.size]; exact Nat.le_refl _, fun k hk => h.block k (by omega)⟩
theorem Only.other {B : Nat} {w w' : World} (h : Only B w w') {A : Nat} {f : Nat → Int} (hA : Blk w A f) (hne : A ≠ B) : Blk w' A f := (h.block A hne).trans hA
end Go.Proofs.Qxb6606422a
