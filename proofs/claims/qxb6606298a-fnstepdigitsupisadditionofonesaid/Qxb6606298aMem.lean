/-
  A row of bytes in a block of the call's own: what it holds, and what a store does to it. No Go text in sight.
-/
import Derived.WalkKit
import Derived.ProofKit
import Derived.Laws.IdiomStrings
namespace Go.Proofs.Qxb6606298a
open Go.RowKit

/-- Block b holds the bytes l from its head on, and none of these cells is frozen. -/
def Bytes (w : World) (b : Nat) (l : List UInt8) : Prop :=
  ∀ j (h : j < l.length), w.cell? ⟨b, j, none⟩ = some (.int .u8 (l[j].toNat : Int)) ∧ w.frozen? ⟨b, j, none⟩ = false

theorem Bytes.drew {w : World} {b : Nat} {l : List UInt8} (h : Bytes w b l) : Bytes w.drew b l := fun j hj => h j hj

theorem Bytes.set {w : World} {b : Nat} {l : List UInt8} (h : Bytes w b l) (i : Nat) (c : UInt8) (n : Int) (hn : n = (c.toNat : Int)) :
    Bytes (w.setCell ⟨b, i, none⟩ (.int .u8 n)) b (l.set i c) := by
  subst hn
  intro j hj
  have hj' : j < l.length := by simpa using hj
  refine ⟨?_, by rw [World.frozen?_setCell]; exact (h j hj').2⟩
  by_cases e : i = j
  · subst e
    rw [World.cell?_setCell_same _ _ _ (h i hj').1]
    simp
  · rw [World.cell?_setCell_other _ _ _ _ (by intro he; exact e (by simpa using congrArg Addr.off he)), (h j hj').1]
    simp [e]

theorem Bytes.at {w : World} {b : Nat} {p r : List UInt8} {c : UInt8} (h : Bytes w b (p ++ c :: r)) :
    w.cell? ⟨b, p.length, none⟩ = some (.int .u8 (c.toNat : Int)) ∧ w.frozen? ⟨b, p.length, none⟩ = false := by
  have := h p.length (by simp)
  simpa using this

theorem Bytes.put {w : World} {b : Nat} {p r : List UInt8} {c d : UInt8} (h : Bytes w b (p ++ c :: r)) (n : Int) (hn : n = (d.toNat : Int)) :
    Bytes (w.setCell ⟨b, p.length, none⟩ (.int .u8 n)) b (p ++ d :: r) := by
  have := h.set p.length d n hn
  simpa using this

theorem Bytes.below {B : Nat} {w w' : World} {b : Nat} {l : List UInt8} (h : Bytes w b l) (hb : Below B w w') (hlt : b < B) : Bytes w' b l := fun j hj =>
  ⟨(hb.cell (p := ⟨b, j, none⟩) hlt).trans (h j hj).1, (hb.frozen (p := ⟨b, j, none⟩) hlt).trans (h j hj).2⟩

/-- What '[]byte(s)' lays. -/
theorem bytes_of_string (w : World) (s : ByteArray) (cap e : Nat) :
    Bytes (w.alloc (.cells (bytesRow s cap) e ((bytesRow s cap).size, (bytesRow s cap).size + 1))) w.heap.size s.data.toList := by
  intro j hj
  have hj' : j < s.data.size := by simpa using hj
  refine ⟨?_, ?_⟩
  · rw [World.cell?_alloc_mark, bytesRow_at s cap j hj']
    simp
  · rw [World.frozen?_alloc_mark]
    have hsz : (bytesRow s cap).size = s.size + (cap - s.size) := by simp [bytesRow]
    have : s.data.size = s.size := rfl
    have hn : ¬ (bytesRow s cap).size ≤ j := by omega
    simp [hn]

/-- What 'make([]byte, n)' lays. -/
theorem bytes_of_make (w : World) (z : Array Value) (hz : z = #[.int .u8 0]) (n e : Nat) : Bytes (w.alloc (.cells (madeCells z n) e)) w.heap.size (List.replicate n 0) := by
  subst hz
  intro j hj
  have hj' : j < n := by simpa using hj
  refine ⟨?_, by simp⟩
  rw [World.cell?_alloc_new]
  simp [madeCells, hj', Nat.mod_one]

/-- 'string(b)': the bytes. -/
theorem run_string_of {P : Program} (w : World) (src dst e : TypeId) (b cap n : Nat) (l : List UInt8) (hs : P.underlying src = some (.slice e)) (he : P.underlying e = some (.int .u8)) (hd : P.underlying dst = some .string)
    (hb : Bytes w b l) (hn : n = l.length) : (convert src dst (.slice (some ⟨b, 0, none⟩) n cap)).run P w = .ok (.string ⟨l.toArray⟩) w := by
  subst hn
  refine run_convert_bytes_back w src dst e ⟨b, 0, none⟩ cap l hs he hd fun j hj => ?_
  rw [WideShapes.add_plain, Nat.zero_add]
  exact (hb j hj).1
end Go.Proofs.Qxb6606298a
