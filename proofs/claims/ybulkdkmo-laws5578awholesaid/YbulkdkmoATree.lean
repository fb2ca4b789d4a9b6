/-
  LawS5578AWhole: the tree in memory; what a round of zzs5578abuild does to it. No walk here.
-/
import Derived.Test.YbulkdkmoALeaf
namespace Go.Proofs.Ybulkdkmo
open Go.ChangeShapes Go.WideShapes Go.ChangeAt Go.RowKit
/-- The cells of a list of children: (0, 1, the node). -/
def kcells : List (Nat × List Nat) → List Value
  | [] => []
  | x :: ks => .int .u64 0 :: .int .i64 1 :: ptrV x.1 :: kcells ks
theorem kcells_length (ks : List (Nat × List Nat)) : (kcells ks).length = ks.length * 3 := by
  induction ks with
  | nil => rfl
  | cons x ks ih => simp [kcells, ih]; omega
theorem kcells_append (ks : List (Nat × List Nat)) (x : Nat × List Nat) : kcells (ks ++ [x]) = kcells ks ++ [.int .u64 0, .int .i64 1, ptrV x.1] := by
  induction ks with
  | nil => rfl
  | cons y ks ih => simp [kcells, ih]
theorem kcells_at (ks : List (Nat × List Nat)) : ∀ (j : Nat) (x : Nat × List Nat), ks[j]? = some x → (kcells ks)[j * 3]? = some (.int .u64 0) ∧ (kcells ks)[j * 3 + 1]? = some (.int .i64 1) ∧ (kcells ks)[j * 3 + 2]? = some (ptrV x.1) := by
  induction ks with
  | nil => intro j x h; simp at h
  | cons y ks ih =>
    intro j x h
    match j, h with
    | 0, h => simp at h; subst h; simp [kcells]
    | j + 1, h =>
      obtain ⟨h1, h2, h3⟩ := ih j x (by simpa using h)
      have e : (j + 1) * 3 = j * 3 + 1 + 1 + 1 := by omega
      simp only [e, kcells, List.getElem?_cons_succ]
      exact ⟨h1, h2, h3⟩
/-- What is read of a list of children in memory. -/
def RowOf (c : Array Value) (ks : List (Nat × List Nat)) : Prop := ∀ (j : Nat) (x : Nat × List Nat), ks[j]? = some x → c[j * 3]? = some (.int .u64 0) ∧ c[j * 3 + 1]? = some (.int .i64 1) ∧ c[j * 3 + 2]? = some (ptrV x.1)
def LeafAt (w : World) (lo p : Nat) : Prop := lo ≤ p ∧ ∃ s, Blk w p #[s, .pointer none] 54
/-- The tree of depth d at most whose root lies in block p, all its blocks from lo on; ls: its leaves' blocks, from left to right. -/
def TreeAt (w : World) (lo : Nat) : Nat → Nat → List Nat → Prop
  | 0, p, ls => LeafAt w lo p ∧ ls = [p]
  | d + 1, p, ls => (LeafAt w lo p ∧ ls = [p]) ∨ ∃ (kb b cap : Nat) (ks : List (Nat × List Nat)) (c : Array Value), lo ≤ p ∧ lo ≤ kb ∧ lo ≤ b ∧ Blk w p #[.slice none 0 0, ptrV kb] 54 ∧
      Blk w kb #[.slice (some ⟨b, 0, none⟩) ks.length cap] 48 ∧ Blk w b c 56 ∧ RowOf c ks ∧ (∀ x, x ∈ ks → TreeAt w lo d x.1 x.2) ∧ ls = (ks.map Prod.snd).flatten ∧ ks.length ≤ 3
theorem TreeAt.leaf {w : World} {lo p : Nat} (d : Nat) (h : LeafAt w lo p) : TreeAt w lo d p [p] := by
  cases d with
  | zero => exact ⟨h, rfl⟩
  | succ d => exact .inl ⟨h, rfl⟩
theorem LeafAt.keep {w w' : World} {lo lo' p : Nat} (h : LeafAt w lo p) (hl : lo' ≤ lo) (hk : ∀ b c t, lo ≤ b → (t = 54 ∨ t = 48 ∨ t = 56) → Blk w b c t → Blk w' b c t) : LeafAt w' lo' p := by
  obtain ⟨h1, s, h2⟩ := h
  exact ⟨by omega, s, hk _ _ _ h1 (by simp) h2⟩
theorem TreeAt.keep {w w' : World} {lo lo' : Nat} (hl : lo' ≤ lo) (hk : ∀ b c t, lo ≤ b → (t = 54 ∨ t = 48 ∨ t = 56) → Blk w b c t → Blk w' b c t) (d : Nat) : ∀ {p : Nat} {ls : List Nat}, TreeAt w lo d p ls → TreeAt w' lo' d p ls := by
  induction d with
  | zero => intro p ls h; exact ⟨h.1.keep hl hk, h.2⟩
  | succ d ih =>
    intro p ls h
    rcases h with ⟨h, e⟩ | ⟨kb, b, cap, ks, c, h1, h2, h3, h4, h5, h6, h7, h8, h9, h10⟩
    · exact .inl ⟨h.keep hl hk, e⟩
    · exact .inr ⟨kb, b, cap, ks, c, by omega, by omega, by omega, hk _ _ _ h1 (by simp) h4, hk _ _ _ h2 (by simp) h5, hk _ _ _ h3 (by simp) h6, h7, fun x hx => ih (h8 x hx), h9, h10⟩
theorem Keeps.setNew {a w : World} (h : Keeps a w) {b : Nat} (hb : a.heap.size ≤ b) (o : Nat) (v : Value) : Keeps a (w.setCell ⟨b, o, none⟩ v) :=
  fun b' c' t' ht' hb' => (h _ _ _ ht' hb').setOther (by have := hb'.lt; show b' ≠ b; omega) v
theorem Keeps.grownNew {a w w' : World} (h : Keeps a w) {g : Nat} (hg : w.grownBy w' (some g)) (hb : a.heap.size ≤ g) : Keeps a w' :=
  fun b' c' t' ht' hb' => (h _ _ _ ht' hb').grown hg (by have := hb'.lt; simp; omega)
/-- The loop's invariant, behind k children. lo: the first block behind the row and its variable. -/
structure Lp (B : Nat) (W0 w wr : World) (bi bo len m ar : Nat) (ls : List Nat) (k : Nat) (i : Nat) (v : Value) (ks : List (Nat × List Nat)) : Prop where
  st : St B W0 wr bi bo i v (ls ++ (ks.map Prod.snd).flatten)
  il : i ≤ len
  keeps : Keeps w wr
  kv : Blk wr (w.heap.size + 1) #[.slice (some ⟨w.heap.size, 0, none⟩) k ar] 48
  row : wr.ownsRow B 56 3 (.slice (some ⟨w.heap.size, 0, none⟩) k ar) k (kcells ks)
  kl : ks.length = k
  cnt : ((ks.map Prod.snd).flatten).length ≤ k * 3 ^ m
  trees : ∀ x, x ∈ ks → TreeAt wr (w.heap.size + 2) m x.1 x.2
theorem owns_blk {w : World} {base : Nat} {e : TypeId} {size g n cap : Nat} {xs : List Value} (h : w.ownsRow base e size (.slice (some ⟨g, 0, none⟩) n cap) n xs) : ∃ cur, Blk w g cur e ∧ cur.toList.take (n * size) = xs ∧ n ≤ cap ∧ cap ≤ maxLen ∧ cur.size = cap * size ∧ base ≤ g := by
  rcases h.2 with ⟨h, _⟩ | ⟨g', cap', cur, h, hb, hg, h1, h2, h3, h4⟩
  · simp at h
  · simp only [Value.slice.injEq, Option.some.injEq, Addr.mk.injEq, and_true, true_and] at h
    obtain ⟨rfl, rfl⟩ := h
    exact ⟨cur, hg, h4, h1, h2, h3, hb⟩
theorem owns_mk {w : World} {base : Nat} {e : TypeId} {size g n cap : Nat} {xs : List Value} {cur : Array Value} (hl : xs.length = n * size) (h : Blk w g cur e) (h4 : cur.toList.take (n * size) = xs) (h1 : n ≤ cap) (h2 : cap ≤ maxLen) (h3 : cur.size = cap * size) (hb : base ≤ g) : w.ownsRow base e size (.slice (some ⟨g, 0, none⟩) n cap) n xs :=
  ⟨hl, .inr ⟨g, cap, cur, rfl, hb, h, h1, h2, h3, h4⟩⟩
theorem rowOf_take {c : Array Value} {ks : List (Nat × List Nat)} (h : c.toList.take (ks.length * 3) = kcells ks) : RowOf c ks := by
  intro j x hx
  have hj : j < ks.length := (List.getElem?_eq_some_iff.1 hx).1
  obtain ⟨h1, h2, h3⟩ := kcells_at ks j x hx
  rw [← h] at h1 h2 h3
  rw [List.getElem?_take, if_pos (by omega)] at h1 h2 h3
  exact ⟨by simpa using h1, by simpa using h2, by simpa using h3⟩
/-- Behind the call that makes the next child: p, its leaves ls3. -/
theorem Lp.called {B : Nat} {W0 w wr w2 : World} {bi bo len m ar : Nat} {ls : List Nat} {k i : Nat} {v : Value} {ks : List (Nat × List Nat)} {p : Nat} {ls3 : List Nat} (h : Lp B W0 w wr bi bo len m ar ls k i v ks)
    (hk : Keeps wr w2) (ht : TreeAt w2 wr.heap.size m p ls3) :
    Keeps w w2 ∧ Blk w2 (w.heap.size + 1) #[.slice (some ⟨w.heap.size, 0, none⟩) k ar] 48 ∧ w2.ownsRow B 56 3 (.slice (some ⟨w.heap.size, 0, none⟩) k ar) k (kcells ks) ∧ (∀ x, x ∈ ks ++ [(p, ls3)] → TreeAt w2 (w.heap.size + 2) m x.1 x.2) := by
  obtain ⟨cur, q1, q2, q3, q4, q5, q6⟩ := owns_blk h.row
  refine ⟨h.keeps.trans hk, hk _ _ _ (by simp) h.kv, owns_mk h.row.1 (hk _ _ _ (by simp) q1) q2 q3 q4 q5 q6, fun x hx => ?_⟩
  rcases List.mem_append.1 hx with hx | hx
  · exact (h.trees x hx).keep (Nat.le_refl _) (fun b c t _ ht hb => hk _ _ _ ht hb)
  · simp at hx; subst hx
    have := h.kv.lt
    exact ht.keep (by omega) (fun b c t _ ht hb => hb)
theorem owns_setOther {w : World} {base : Nat} {e : TypeId} {size : Nat} {v : Value} {n : Nat} {xs : List Value} (h : w.ownsRow base e size v n xs) {b o : Nat} {c : Array Value} {t : TypeId} (hb : Blk w b c t) (ht : t ≠ e) (u : Value) : (w.setCell ⟨b, o, none⟩ u).ownsRow base e size v n xs :=
  ownsRow_setCell_other h (owns_ne h hb ht) u
/-- A store into, and an append within, a block of another type than the three that 'St' speaks of. -/
theorem St.setOther {B : Nat} {W0 w : World} {bi bo i : Nat} {v : Value} {ls : List Nat} (h : St B W0 w bi bo i v ls) {b o : Nat} {c : Array Value} {t : TypeId} (hb : Blk w b c t) (hB : B ≤ b) (ht : t = 48 ∨ t = 56) (u : Value) : St B W0 (w.setCell ⟨b, o, none⟩ u) bi bo i v ls :=
  ⟨h.bel.setCell hB u, h.hi.setOther (h.hi.ne hb (by rcases ht with rfl | rfl <;> decide)) u, h.ho.setOther (h.ho.ne hb (by rcases ht with rfl | rfl <;> decide)) u, owns_setOther h.own hb (by rcases ht with rfl | rfl <;> decide) u, h.lbi, h.lbo⟩
theorem St.grownOther {B : Nat} {W0 w w' : World} {bi bo i : Nat} {v : Value} {ls : List Nat} (h : St B W0 w bi bo i v ls) {b : Nat} {c : Array Value} {t : TypeId} (hb : Blk w b c t) (hB : B ≤ b) (ht : t = 48 ∨ t = 56) (hg : w.grownBy w' (some b)) : St B W0 w' bi bo i v ls := by
  have n1 := h.hi.ne hb (by rcases ht with rfl | rfl <;> decide)
  have n2 := h.ho.ne hb (by rcases ht with rfl | rfl <;> decide)
  have n3 := owns_ne h.own hb (by rcases ht with rfl | rfl <;> decide)
  exact ⟨h.bel.grown hg h.size (fun k hk => by simp at hk; omega), h.hi.grown hg (by simpa using fun e => n1 e.symm), h.ho.grown hg (by simpa using fun e => n2 e.symm), h.own.kept hg (.inr n3), h.lbi, h.lbo⟩
theorem Lp.pushed {B : Nat} {W0 w w2 w4 : World} {bi bo len m ar : Nat} {ls : List Nat} {k i : Nat} {v : Value} {ks : List (Nat × List Nat)} {p : Nat} {ls3 : List Nat} {o : Obj}
    (hs : St B W0 w2 bi bo i v (ls ++ (ks.map Prod.snd).flatten ++ ls3)) (hi : i ≤ len) (hk : Keeps w w2) (hv : Blk w2 (w.heap.size + 1) #[.slice (some ⟨w.heap.size, 0, none⟩) k ar] 48)
    (hr : w2.ownsRow B 56 3 (.slice (some ⟨w.heap.size, 0, none⟩) k ar) k (kcells ks)) (ht : ∀ x, x ∈ ks ++ [(p, ls3)] → TreeAt w2 (w.heap.size + 2) m x.1 x.2) (kl : ks.length = k) (cnt : ((ks.map Prod.snd).flatten).length ≤ k * 3 ^ m) (hc3 : ls3.length ≤ 3 ^ m)
    (hg : (w2.alloc o).grownBy w4 (some w.heap.size)) (ho : w4.ownsRow B 56 3 (.slice (some ⟨w.heap.size, 0, none⟩) (k + 1) ar) (k + 1) (kcells ks ++ [.int .u64 0, .int .i64 1, ptrV p])) (hB : B ≤ w.heap.size) :
    Lp B W0 w (w4.setCell ⟨w.heap.size + 1, 0, none⟩ (.slice (some ⟨w.heap.size, 0, none⟩) (k + 1) ar)) bi bo len m ar ls (k + 1) i v (ks ++ [(p, ls3)]) ∧ w4.cell? ⟨w.heap.size + 1, 0, none⟩ = some (.slice (some ⟨w.heap.size, 0, none⟩) k ar) ∧ w4.frozen? ⟨w.heap.size + 1, 0, none⟩ = false := by
  obtain ⟨cur, q1, q2, q3, q4, q5, q6⟩ := owns_blk hr
  have hv4 := (hv.alloc o).grown hg (by simp)
  have s4 := ((hs.alloc o).grownOther (q1.alloc o) hB (by simp) hg).setOther hv4 (by omega) (by simp) (o := 0) (.slice (some ⟨w.heap.size, 0, none⟩) (k + 1) ar)
  refine ⟨⟨by simpa [List.append_assoc] using s4, hi, ((hk.alloc o).grownNew hg (Nat.le_refl _)).setNew (by omega) _ _, by simpa using hv4.set 0 (.slice (some ⟨w.heap.size, 0, none⟩) (k + 1) ar), ?_, by simp [kl], ?_, fun x hx => ?_⟩, hv4.cell (by rfl), hv4.frozen 0⟩
  · rw [kcells_append]
    exact owns_setOther ho hv4 (by decide) _
  · simp only [List.map_append, List.flatten_append, List.length_append, List.map_cons, List.map_nil, List.flatten_cons, List.flatten_nil, List.length_nil, Nat.add_mul]
    omega
  · refine (ht x hx).keep (Nat.le_refl _) fun b c t hb htt hbb => ?_
    exact ((hbb.alloc o).grown hg (by simp; omega)).setOther (by show b ≠ w.heap.size + 1; omega) _
end Go.Proofs.Ybulkdkmo
