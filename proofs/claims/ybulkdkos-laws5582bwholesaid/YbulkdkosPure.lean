/-
  PLAIN, for LawS5582BWhole: sums of lengths; the places of the runs that are not empty.
-/
import Init
namespace Go.Proofs.Ybulkdkos
/-- The sum of the first j lengths. -/
def pre (L : Nat → Nat) : Nat → Nat
  | 0 => 0
  | j + 1 => pre L j + L j
theorem pre_mono (L : Nat → Nat) : ∀ {a b : Nat}, a ≤ b → pre L a ≤ pre L b := by
  intro a b h
  induction h with
  | refl => exact Nat.le_refl _
  | step _ ih => exact Nat.le_trans ih (Nat.le_add_right _ _)
/-- The places below j whose run is not empty. -/
def ne (L : Nat → Nat) (j : Nat) : List Nat := (List.range j).filter fun r => decide (0 < L r)
theorem ne_succ (L : Nat → Nat) (j : Nat) : ne L (j + 1) = ne L j ++ (if 0 < L j then [j] else []) := by
  unfold ne
  rw [List.range_succ, List.filter_append]
  by_cases h : 0 < L j <;> simp [h]
theorem ne_le (L : Nat → Nat) (j : Nat) : (ne L j).length ≤ j := by
  unfold ne
  exact Nat.le_trans (List.length_filter_le _ _) (by simp)
theorem ne_len_pre (L : Nat → Nat) (j : Nat) : (ne L j).length ≤ pre L j := by
  induction j with
  | zero => simp [ne]
  | succ j ih =>
    rw [ne_succ, List.length_append]
    show _ ≤ pre L j + L j
    split <;> simp <;> omega
theorem ne_at {L : Nat → Nat} {n : Nat} : ∀ {k r : Nat}, (ne L n)[k]? = some r → r < n ∧ 0 < L r ∧ ne L r = (ne L n).take k := by
  induction n with
  | zero => intro k r h; simp [ne] at h
  | succ n ih =>
    intro k r h
    rw [ne_succ] at h ⊢
    by_cases hk : k < (ne L n).length
    · rw [List.getElem?_append_left hk] at h
      obtain ⟨h1, h2, h3⟩ := ih h
      refine ⟨by omega, h2, ?_⟩
      rw [h3, List.take_append_of_le_length (by omega)]
    · rw [List.getElem?_append_right (by omega)] at h
      split at h
      · have hk0 : k - (ne L n).length = 0 := by
          have := (List.getElem?_eq_some_iff.1 h).1
          simpa using this
        rw [hk0] at h
        simp at h
        subst h
        refine ⟨by omega, by assumption, ?_⟩
        rw [show k = (ne L n).length by omega, List.take_left]
      · simp at h
theorem pre_ne (L : Nat → Nat) (n : Nat) : pre L n = ((ne L n).map L).sum := by
  induction n with
  | zero => simp [ne, pre]
  | succ n ih =>
    rw [ne_succ]
    show pre L n + L n = _
    rw [ih]
    by_cases h : 0 < L n
    · simp [h]
    · simp [h]; omega
/-- Where the k-th run that is not empty begins. -/
def st (L : Nat → Nat) (n k : Nat) : Nat := (((ne L n).take k).map L).sum
theorem st_at {L : Nat → Nat} {n k r : Nat} (h : (ne L n)[k]? = some r) : st L n k = pre L r ∧ st L n (k + 1) = pre L (r + 1) := by
  obtain ⟨h1, h2, h3⟩ := ne_at h
  have e : st L n k = pre L r := by unfold st; rw [← h3, pre_ne]
  refine ⟨e, ?_⟩
  show _ = pre L r + L r
  rw [← e]
  unfold st
  rw [List.take_add_one, h]
  simp
theorem st_zero (L : Nat → Nat) (n : Nat) : st L n 0 = 0 := by simp [st]
theorem st_all (L : Nat → Nat) (n : Nat) : st L n (ne L n).length = pre L n := by unfold st; rw [List.take_length, pre_ne]
/-- One place, one run. -/
theorem pre_uniq {L : Nat → Nat} {a b i : Nat} (h1 : pre L a ≤ i) (h2 : i < pre L (a + 1)) (h3 : pre L b ≤ i) (h4 : i < pre L (b + 1)) : a = b := by
  rcases Nat.lt_trichotomy a b with h | h | h
  · have := pre_mono L (show a + 1 ≤ b by omega); omega
  · exact h
  · have := pre_mono L (show b + 1 ≤ a by omega); omega
end Go.Proofs.Ybulkdkos
