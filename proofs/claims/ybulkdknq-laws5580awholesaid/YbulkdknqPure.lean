/-
  PLAIN: strictly ascending lists; what Sort and Compact make of a list.
-/
import Derived.Lib.SlicesCompact
namespace Go.Proofs.Ybulkdknq
open Go.Lib
theorem strict_ext : ∀ (l1 l2 : List Int), l1.Pairwise (· < ·) → l2.Pairwise (· < ·) → (∀ x, x ∈ l1 ↔ x ∈ l2) → l1 = l2
  | [], [], _, _, _ => rfl
  | [], y :: _, _, _, h => absurd ((h y).2 (by simp)) (by simp)
  | x :: _, [], _, _, h => absurd ((h x).1 (by simp)) (by simp)
  | x :: l1, y :: l2, h1, h2, h => by
    rw [List.pairwise_cons] at h1 h2
    have e : x = y := by
      rcases List.mem_cons.1 ((h x).1 (by simp)) with e | hx
      · exact e
      · rcases List.mem_cons.1 ((h y).2 (by simp)) with e | hy
        · exact e.symm
        · have := h2.1 x hx; have := h1.1 y hy; omega
    subst e
    rw [strict_ext l1 l2 h1.2 h2.2 fun z => ?_]
    constructor
    · intro hz
      rcases List.mem_cons.1 ((h z).1 (by simp [hz])) with e | hz'
      · subst e; have := h1.1 z hz; omega
      · exact hz'
    · intro hz
      rcases List.mem_cons.1 ((h z).2 (by simp [hz])) with e | hz'
      · subst e; have := h2.1 z hz; omega
      · exact hz'
/-- Of an ascending row: what slices.Compact leaves is strictly ascending, and has the same members. -/
theorem compact_sorted (d : Array Int) (hs : ∀ i j, i ≤ j → j < d.size → d[i]! ≤ d[j]!) (m : Nat) (hm : m ≤ d.size) :
    (compactUpTo d m).Pairwise (· < ·) ∧ (∀ x, x ∈ compactUpTo d m ↔ ∃ j, j < m ∧ d[j]! = x) := by
  induction m with
  | zero => exact ⟨by simp [compactUpTo], fun x => by simp [compactUpTo]⟩
  | succ m ih =>
    obtain ⟨h1, h2⟩ := ih (by omega)
    rw [compactUpTo_succ]
    by_cases hk : keeps d m = true
    · rw [if_pos hk]
      refine ⟨?_, fun x => ?_⟩
      · rw [List.pairwise_append]
        refine ⟨h1, by simp, fun a ha b hb => ?_⟩
        simp at hb
        subst hb
        obtain ⟨j, hj, rfl⟩ := (h2 a).1 ha
        have hle := hs j (m - 1) (by omega) (by omega)
        have hle2 := hs (m - 1) m (by omega) (by omega)
        have hne : d[m]! ≠ d[m - 1]! := by
          simp only [keeps] at hk
          rcases Nat.eq_zero_or_pos m with h | h
          · omega
          · simp [show ¬ m = 0 by omega] at hk
            exact hk
        omega
      · rw [List.mem_append, h2]
        simp only [List.mem_singleton]
        constructor
        · rintro (⟨j, hj, e⟩ | e)
          · exact ⟨j, by omega, e⟩
          · exact ⟨m, by omega, e.symm⟩
        · rintro ⟨j, hj, e⟩
          by_cases hjm : j = m
          · subst hjm; exact .inr e.symm
          · exact .inl ⟨j, by omega, e⟩
    · rw [if_neg hk, List.append_nil]
      refine ⟨h1, fun x => ?_⟩
      rw [h2]
      have hne : 0 < m ∧ d[m]! = d[m - 1]! := by
        simp only [keeps] at hk
        rcases Nat.eq_zero_or_pos m with h | h
        · subst h; simp at hk
        · simp [show ¬ m = 0 by omega] at hk
          exact ⟨h, hk⟩
      constructor
      · rintro ⟨j, hj, e⟩; exact ⟨j, by omega, e⟩
      · rintro ⟨j, hj, e⟩
        by_cases hjm : j = m
        · subst hjm; exact ⟨j - 1, by omega, by rw [← hne.2]; exact e⟩
        · exact ⟨j, by omega, e⟩
/-- Sorted and made distinct: any strictly ascending list with the same members. -/
theorem sort_compact (K L : List Int) (hL : L.Pairwise (· < ·)) (hm : ∀ x, x ∈ L ↔ x ∈ K) :
    compactUpTo (K.mergeSort fun x y => decide (x ≤ y)).toArray (K.mergeSort fun x y => decide (x ≤ y)).toArray.size = L := by
  have hp := List.pairwise_mergeSort (le := fun x y : Int => decide (x ≤ y)) (by intro a b c; simp; omega) (by intro a b; simp; omega) K
  have hperm := List.mergeSort_perm K (fun x y => decide (x ≤ y))
  generalize (K.mergeSort fun x y => decide (x ≤ y)) = S at *
  have hs : ∀ i j, i ≤ j → j < S.toArray.size → S.toArray[i]! ≤ S.toArray[j]! := by
    intro i j hij hj
    simp at hj
    rw [getElem!_pos _ i (by simp; omega), getElem!_pos _ j (by simpa using hj)]
    simp only [List.getElem_toArray]
    rcases Nat.lt_or_eq_of_le hij with h | h
    · have := List.pairwise_iff_getElem.1 hp i j (by omega) hj h
      simpa using this
    · subst h; exact Int.le_refl _
  obtain ⟨c1, c2⟩ := compact_sorted S.toArray hs S.toArray.size (Nat.le_refl _)
  refine strict_ext _ _ c1 hL fun x => ?_
  rw [c2, hm, ← hperm.mem_iff]
  constructor
  · rintro ⟨j, hj, rfl⟩
    rw [getElem!_pos _ j hj]
    simp
  · intro hx
    obtain ⟨j, hj, e⟩ := List.mem_iff_getElem.1 hx
    exact ⟨j, by simpa using hj, by rw [getElem!_pos _ j (by simpa using hj)]; simpa using e⟩
end Go.Proofs.Ybulkdknq
