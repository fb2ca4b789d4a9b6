/-
  WORDS OF MY OWN, for this seat's walks: a block of cells, its content an array; what stores, new blocks and draws do to it. No Go text here.
-/
import Derived.WalkKit
import Derived.ProofKit
import Derived.Below
import Derived.Deep.Draws
namespace Go.Proofs.Ybulkdkos
open Go.RowKit

/-- Block b is the row of cells c, of element type t, none frozen. -/
def Blk (w : World) (b : Nat) (c : Array Value) (t : TypeId) : Prop := w.heap[b]? = some (.cells c t (0, 0))

theorem Blk.lt {w : World} {b : Nat} {c : Array Value} {t : TypeId} (h : Blk w b c t) : b < w.heap.size := (Array.getElem?_eq_some_iff.1 h).1
theorem Blk.cell {w : World} {b : Nat} {c : Array Value} {t : TypeId} (h : Blk w b c t) {i : Nat} {v : Value} (hi : c[i]? = some v) : w.cell? ⟨b, i, none⟩ = some v := by
  unfold Blk at h
  simp [World.cell?, h, hi]
theorem Blk.frozen {w : World} {b : Nat} {c : Array Value} {t : TypeId} (h : Blk w b c t) (i : Nat) : w.frozen? ⟨b, i, none⟩ = false := by
  unfold Blk at h
  simp [World.frozen?, h]
theorem Blk.set {w : World} {b : Nat} {c : Array Value} {t : TypeId} (h : Blk w b c t) (i : Nat) (v : Value) : Blk (w.setCell ⟨b, i, none⟩ v) b (c.setIfInBounds i v) t := by
  unfold Blk at h ⊢
  simp [World.setCell, Array.getElem?_modify, h]
theorem Blk.setOther {w : World} {b : Nat} {c : Array Value} {t : TypeId} (h : Blk w b c t) {a : Addr} (ha : b ≠ a.block) (v : Value) : Blk (w.setCell a v) b c t := by
  unfold Blk at h ⊢
  rw [Below.heap_setCell _ _ _ _ ha]; exact h
theorem Blk.alloc {w : World} {b : Nat} {c : Array Value} {t : TypeId} (h : Blk w b c t) (o : Obj) : Blk (w.alloc o) b c t := by
  have hl := h.lt
  unfold Blk at h ⊢
  rw [Below.heap_alloc _ _ _ hl]; exact h
theorem Blk.drew {w : World} {b : Nat} {c : Array Value} {t : TypeId} (h : Blk w b c t) : Blk w.drew b c t := h
theorem Blk.new (w : World) (c : Array Value) (t : TypeId) : Blk (w.alloc (.cells c t)) w.heap.size c t := by
  show (w.heap.push _)[w.heap.size]? = _
  simp
theorem Blk.below {B : Nat} {w w' : World} {b : Nat} {c : Array Value} {t : TypeId} (h : Blk w b c t) (hb : Below B w w') (hl : b < B) : Blk w' b c t := by
  unfold Blk at h ⊢
  rw [hb.block b hl]; exact h

theorem Blk.drewN {w : World} {b : Nat} {c : Array Value} {t : TypeId} (h : Blk w b c t) (n : Nat) : Blk (w.drewN n) b c t := by
  induction n with
  | zero => exact h
  | succ n ih => exact ih
theorem belowN {B : Nat} {a w : World} (h : Below B a w) (n : Nat) : Below B a (w.drewN n) := by
  induction n with
  | zero => exact h
  | succ n ih => exact ih.drew
theorem cell_lt {w : World} {b o : Nat} {v : Value} (h : w.cell? ⟨b, o, none⟩ = some v) : b < w.heap.size := by
  by_cases hb : b < w.heap.size
  · exact hb
  · have : w.heap[b]? = none := by simp; omega
    simp [World.cell?, this] at h

theorem Blk.ne {w : World} {b b' : Nat} {c c' : Array Value} {t t' : TypeId} (h : Blk w b c t) (h' : Blk w b' c' t') (ht : t ≠ t') : b ≠ b' := by
  rintro rfl
  unfold Blk at h h'
  rw [h] at h'
  simp at h'
  exact ht h'.2
theorem Blk.grown {w w' : World} {b : Nat} {c : Array Value} {t : TypeId} {row : Option Nat} (h : Blk w b c t) (hg : w.grownBy w' row) (hne : row ≠ some b) : Blk w' b c t := by
  have := hg.block b h.lt (fun e => hne e.symm)
  unfold Blk at h ⊢
  rw [this]; exact h
theorem owns_shape {w : World} {base : Nat} {e : TypeId} {size : Nat} {v : Value} {n : Nat} {xs : List Value} (h : w.ownsRow base e size v n xs) : ∃ ao c, v = .slice ao n c := by
  rcases h.2 with ⟨rfl, rfl⟩ | ⟨g, cap, cur, rfl, _⟩
  · exact ⟨_, _, rfl⟩
  · exact ⟨_, _, rfl⟩
theorem owns_blk {w : World} {base : Nat} {e : TypeId} {size g n cap : Nat} {xs : List Value} (h : w.ownsRow base e size (.slice (some ⟨g, 0, none⟩) n cap) n xs) : ∃ cur, Blk w g cur e ∧ cur.toList.take (n * size) = xs ∧ n ≤ cap ∧ cap ≤ maxLen ∧ cur.size = cap * size ∧ base ≤ g := by
  rcases h.2 with ⟨h, _⟩ | ⟨g', cap', cur, h, hb, hg, h1, h2, h3, h4⟩
  · simp at h
  · simp only [Value.slice.injEq, Option.some.injEq, Addr.mk.injEq, and_true, true_and] at h
    obtain ⟨rfl, rfl⟩ := h
    exact ⟨cur, hg, h4, h1, h2, h3, hb⟩
theorem own_below {B : Nat} {w w' : World} {base : Nat} {e : TypeId} {size : Nat} {v : Value} {n : Nat} {xs : List Value} (h : w.ownsRow base e size v n xs) (hb : Below B w w') (hB : w.heap.size ≤ B := by exact Nat.le_refl _) : w'.ownsRow base e size v n xs := by
  refine ⟨h.1, ?_⟩
  rcases h.2 with h | ⟨g, cap, cur, h1, h2, h3, h4⟩
  · exact .inl h
  · exact .inr ⟨g, cap, cur, h1, h2, by rw [hb.block g (Nat.lt_of_lt_of_le (Array.getElem?_eq_some_iff.1 h3).1 hB)]; exact h3, h4⟩
theorem news_one {w : World} {g : Nat} {x : Value} (h : w.cell? ⟨g, 0, none⟩ = some x) : ∀ j u, [x][j]? = some u → w.cell? ((⟨g, 0, none⟩ : Addr).add j) = some u := by
  intro j u hj
  match j, hj with
  | 0, hj => simp at hj; subst hj; simpa [Addr.add] using h
/-- The first k cells of c are the values f 0, f 1, .. -/
def Upto (c : Array Value) (k : Nat) (f : Nat → Value) : Prop := ∀ j, j < k → c[j]? = some (f j)
theorem Upto.zero (c : Array Value) (f : Nat → Value) : Upto c 0 f := fun j hj => absurd hj (by omega)
theorem Upto.step {c : Array Value} {k : Nat} {f : Nat → Value} (h : Upto c k f) (hk : k < c.size) {v : Value} (hv : v = f k) : Upto (c.setIfInBounds k v) (k + 1) f := by
  intro j hj
  by_cases e : j = k
  · subst e
    rw [Array.getElem?_setIfInBounds, if_pos rfl, if_pos hk, hv]
  · rw [Array.getElem?_setIfInBounds, if_neg (by omega)]
    exact h j (by omega)
/-- Block b is a row of n cells of type t holding f 0, .., f (n - 1). -/
def Row (w : World) (b : Nat) (t : TypeId) (n : Nat) (f : Nat → Value) : Prop := ∃ c, Blk w b c t ∧ c.size = n ∧ Upto c n f
theorem Row.cell {w : World} {b : Nat} {t : TypeId} {n : Nat} {f : Nat → Value} (h : Row w b t n f) {j : Nat} (hj : j < n) : w.cell? ⟨b, j, none⟩ = some (f j) := by
  obtain ⟨c, h1, _, h3⟩ := h
  exact h1.cell (h3 j hj)
theorem Row.lt {w : World} {b : Nat} {t : TypeId} {n : Nat} {f : Nat → Value} (h : Row w b t n f) : b < w.heap.size := by
  obtain ⟨c, h1, _⟩ := h
  exact h1.lt
theorem Row.below {B : Nat} {w w' : World} {b : Nat} {t : TypeId} {n : Nat} {f : Nat → Value} (h : Row w b t n f) (hb : Below B w w') (hl : b < B) : Row w' b t n f := by
  obtain ⟨c, h1, h2⟩ := h
  exact ⟨c, h1.below hb hl, h2⟩
theorem Row.alloc {w : World} {b : Nat} {t : TypeId} {n : Nat} {f : Nat → Value} (h : Row w b t n f) (o : Obj) : Row (w.alloc o) b t n f := by
  obtain ⟨c, h1, h2⟩ := h
  exact ⟨c, h1.alloc o, h2⟩
theorem Row.drewN {w : World} {b : Nat} {t : TypeId} {n : Nat} {f : Nat → Value} (h : Row w b t n f) (m : Nat) : Row (w.drewN m) b t n f := by
  obtain ⟨c, h1, h2⟩ := h
  exact ⟨c, h1.drewN m, h2⟩

end Go.Proofs.Ybulkdkos
