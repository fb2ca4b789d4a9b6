/-
  LawS5578CLeaves: the plain law: the last of what slices.Compact leaves of the sorted row is the highest number. No Go in it.
-/
import Derived.Lib.SlicesCompact
namespace Go.Proofs.Ybulkdkmo
open Go.Lib

/-- The highest of the first k numbers, from 0. -/
def mxOf (Z : Nat → Int) : Nat → Int
  | 0 => 0
  | k + 1 => if mxOf Z k < Z k then Z k else mxOf Z k
theorem mxOf_ge (Z : Nat → Int) : ∀ n j, j < n → Z j ≤ mxOf Z n
  | n + 1, j, hj => by
    have ih := fun h => mxOf_ge Z n j h
    simp only [mxOf]
    by_cases e : j = n
    · subst e
      split <;> omega
    · have := ih (by omega)
      split <;> omega
theorem mxOf_in (Z : Nat → Int) : ∀ n, mxOf Z n = 0 ∨ ∃ j, j < n ∧ mxOf Z n = Z j
  | 0 => Or.inl rfl
  | n + 1 => by
    simp only [mxOf]
    split
    · exact Or.inr ⟨n, by omega, rfl⟩
    · rcases mxOf_in Z n with h | ⟨j, hj, h⟩
      · exact Or.inl h
      · exact Or.inr ⟨j, by omega, h⟩

theorem compact_last (d : Array Int) : ∀ m, 0 < m → (compactUpTo d m).getLast? = some d[m - 1]!
  | m + 1, _ => by
    rw [compactUpTo_succ]
    by_cases hk : keeps d m = true
    · rw [if_pos hk]; simp
    · rw [if_neg hk, List.append_nil]
      have h : ¬ (m = 0 ∨ d[m]! ≠ d[m - 1]!) := by simpa [keeps] using hk
      have hm : 0 < m := by omega
      have he : d[m]! = d[m - 1]! := by
        by_cases e : d[m]! = d[m - 1]!
        · exact e
        · exact absurd (Or.inr e) h
      rw [compact_last d m hm, Nat.add_sub_cancel, he]
theorem compact_len (d : Array Int) : ∀ m, (compactUpTo d m).length ≤ m
  | 0 => by simp [compactUpTo]
  | m + 1 => by
    have := compact_len d m
    rw [compactUpTo_succ]
    split <;> simp <;> omega

def sorted (Z : Nat → Int) (n : Nat) : List Int := ((List.range n).map Z).mergeSort fun x y => decide (x ≤ y)
theorem sorted_len (Z : Nat → Int) (n : Nat) : (sorted Z n).length = n := by simp [sorted]
theorem sorted_last (Z : Nat → Int) (n : Nat) (hn : 0 < n) (hz : ∀ j, 0 ≤ Z j) : (sorted Z n).toArray[n - 1]! = mxOf Z n := by
  have hl := sorted_len Z n
  have hp : (sorted Z n).Pairwise fun x y => decide (x ≤ y) = true := List.pairwise_mergeSort (fun a b c h1 h2 => by simp at *; omega) (fun a b => by simp; omega) _
  have hin : ∀ x, x ∈ sorted Z n ↔ x ∈ (List.range n).map Z := fun x => (List.mergeSort_perm _ _).mem_iff
  have hlt : n - 1 < (sorted Z n).length := by omega
  have e : (sorted Z n).toArray[n - 1]! = (sorted Z n)[n - 1] := by simp [hlt]
  rw [e]
  have hmem : (sorted Z n)[n - 1] ∈ sorted Z n := List.getElem_mem hlt
  obtain ⟨j, hj, hjz⟩ : ∃ j, j < n ∧ Z j = (sorted Z n)[n - 1] := by
    have := (hin _).1 hmem
    simpa using this
  have hge : ∀ i, i < n → Z i ≤ (sorted Z n)[n - 1] := by
    intro i hi
    have h1 : Z i ∈ sorted Z n := (hin _).2 (List.mem_map.2 ⟨i, List.mem_range.2 hi, rfl⟩)
    obtain ⟨k, hk, hkz⟩ := List.getElem_of_mem h1
    rw [← hkz]
    by_cases e : k = n - 1
    · subst e; exact Int.le_refl _
    · have := List.pairwise_iff_getElem.1 hp k (n - 1) hk hlt (by omega)
      simpa using this
  have h1 := mxOf_ge Z n j hj
  rcases mxOf_in Z n with h | ⟨i, hi, h⟩
  · have := hz j
    omega
  · have := hge i hi
    omega

/-- What slices.Compact leaves. -/
def left (Z : Nat → Int) (n : Nat) : List Int := compactUpTo (sorted Z n).toArray (sorted Z n).length
theorem left_facts (Z : Nat → Int) (n : Nat) (hn : 0 < n) (hz : ∀ j, 0 ≤ Z j) : 0 < (left Z n).length ∧ (left Z n).length ≤ n ∧ (left Z n).getD ((left Z n).length - 1) 0 = mxOf Z n := by
  have hl := sorted_len Z n
  have h := compact_last (sorted Z n).toArray (sorted Z n).length (by omega)
  have hle := compact_len (sorted Z n).toArray (sorted Z n).length
  change (left Z n).getLast? = _ at h
  change (left Z n).length ≤ _ at hle
  rw [hl, sorted_last Z n hn hz] at h
  rw [List.getLast?_eq_getElem?] at h
  refine ⟨?_, by omega, ?_⟩
  · have := (List.getElem?_eq_some_iff.1 h).1
    omega
  · rw [List.getD_eq_getElem?_getD, h]; rfl
end Go.Proofs.Ybulkdkmo
