/-
  WORDS OF MY OWN, for this seat's walks: a block of cells, its content an array; what stores, new blocks and draws do to it. No Go text here.
-/
import Derived.WalkKit
import Derived.ProofKit
import Derived.Below
import Derived.Deep.Draws
namespace Go.Proofs.Ybulkdkmo
open Go.RowKit

/-- Block b is the row of cells c, of element type t, none frozen. -/
def Blk (w : World) (b : Nat) (c : Array Value) (t : TypeId) : Prop := w.heap[b]? = some (.cells c t (0, 0))

theorem Blk.lt {w : World} {b : Nat} {c : Array Value} {t : TypeId} (h : Blk w b c t) : b < w.heap.size := (Array.getElem?_eq_some_iff.1 h).1
theorem Blk.cell {w : World} {b : Nat} {c : Array Value} {t : TypeId} (h : Blk w b c t) {i : Nat} {v : Value} (hi : c[i]? = some v) : w.cell? ⟨b, i, none⟩ = some v := by
  unfold Blk at h
  simp [World.cell?, h, hi]
theorem Blk.frozen {w : World} {b : Nat} {c : Array Value} {t : TypeId} (h : Blk w b c t) (i : Nat) : w.frozen? ⟨b, i, none⟩ = false := by
  unfold Blk at h
  simp [World.frozen?, h]
theorem Blk.set {w : World} {b : Nat} {c : Array Value} {t : TypeId} (h : Blk w b c t) (i : Nat) (v : Value) : Blk (w.setCell ⟨b, i, none⟩ v) b (c.setIfInBounds i v) t := by
  unfold Blk at h ⊢
  simp [World.setCell, Array.getElem?_modify, h]
theorem Blk.setOther {w : World} {b : Nat} {c : Array Value} {t : TypeId} (h : Blk w b c t) {a : Addr} (ha : b ≠ a.block) (v : Value) : Blk (w.setCell a v) b c t := by
  unfold Blk at h ⊢
  rw [Below.heap_setCell _ _ _ _ ha]; exact h
theorem Blk.alloc {w : World} {b : Nat} {c : Array Value} {t : TypeId} (h : Blk w b c t) (o : Obj) : Blk (w.alloc o) b c t := by
  have hl := h.lt
  unfold Blk at h ⊢
  rw [Below.heap_alloc _ _ _ hl]; exact h
theorem Blk.drew {w : World} {b : Nat} {c : Array Value} {t : TypeId} (h : Blk w b c t) : Blk w.drew b c t := h
theorem Blk.new (w : World) (c : Array Value) (t : TypeId) : Blk (w.alloc (.cells c t)) w.heap.size c t := by
  show (w.heap.push _)[w.heap.size]? = _
  simp
theorem Blk.below {B : Nat} {w w' : World} {b : Nat} {c : Array Value} {t : TypeId} (h : Blk w b c t) (hb : Below B w w') (hl : b < B) : Blk w' b c t := by
  unfold Blk at h ⊢
  rw [hb.block b hl]; exact h

theorem Blk.drewN {w : World} {b : Nat} {c : Array Value} {t : TypeId} (h : Blk w b c t) (n : Nat) : Blk (w.drewN n) b c t := by
  induction n with
  | zero => exact h
  | succ n ih => exact ih
theorem belowN {B : Nat} {a w : World} (h : Below B a w) (n : Nat) : Below B a (w.drewN n) := by
  induction n with
  | zero => exact h
  | succ n ih => exact ih.drew
theorem cell_lt {w : World} {b o : Nat} {v : Value} (h : w.cell? ⟨b, o, none⟩ = some v) : b < w.heap.size := by
  by_cases hb : b < w.heap.size
  · exact hb
  · have : w.heap[b]? = none := by simp; omega
    simp [World.cell?, this] at h

end Go.Proofs.Ybulkdkmo
