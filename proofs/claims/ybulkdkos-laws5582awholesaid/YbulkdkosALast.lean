/-
  LawS5582AWhole: the plain law: what the stable sort and slices.CompactFunc leave is the first key of each suffix, sorted. No Go in it.
-/
import Derived.Test.YbulkdkosADec
namespace Go.Proofs.Ybulkdkos
open Go.RowKit Go.Sort Go.Proofs Go.Lib
set_option linter.unusedVariables false
set_option linter.unusedSimpArgs false
/-- x is the first of its suffix in lv. -/
def fstB (S : Nat → List Int) (lv : List Nat) (x : Nat) : Bool := lv.all fun y => decide (S y = S x → x ≤ y)
theorem fstB_iff {S : Nat → List Int} {lv : List Nat} {x : Nat} : fstB S lv x = true ↔ ∀ y ∈ lv, S y = S x → x ≤ y := by
  simp only [fstB, List.all_eq_true, decide_eq_true_eq]
theorem prec_ext {c : Nat → Nat → Int} (O : Ord c) : ∀ (l1 l2 : List Nat), l1.Pairwise (Prec c) → l2.Pairwise (Prec c) → (∀ x, x ∈ l1 ↔ x ∈ l2) → l1 = l2 := by
  have irr : ∀ x, ¬ Prec c x x := fun x h => by
    have := O.anti x x
    rcases h with h | ⟨_, h⟩ <;> omega
  intro l1
  induction l1 with
  | nil =>
    intro l2 _ _ h
    cases l2 with
    | nil => rfl
    | cons y l2 => exact absurd ((h y).2 (by simp)) (by simp)
  | cons x l1 ih =>
    intro l2 h1 h2 h
    cases l2 with
    | nil => exact absurd ((h x).1 (by simp)) (by simp)
    | cons y l2 =>
      rw [List.pairwise_cons] at h1 h2
      have hxy : x = y := by
        have hx := (h x).1 (by simp)
        have hy := (h y).2 (by simp)
        rcases List.mem_cons.1 hx with e | hx
        · exact e
        · rcases List.mem_cons.1 hy with e | hy
          · exact e.symm
          · exact absurd ((h1.1 y hy).trans O (h2.1 x hx)) (irr x)
      subst hxy
      congr 1
      refine ih l2 h1.2 h2.2 fun z => ?_
      constructor
      · intro hz
        rcases List.mem_cons.1 ((h z).1 (List.mem_cons_of_mem _ hz)) with e | hz'
        · subst e; exact absurd (h1.1 z hz) (irr z)
        · exact hz'
      · intro hz
        rcases List.mem_cons.1 ((h z).2 (List.mem_cons_of_mem _ hz)) with e | hz'
        · subst e; exact absurd (h2.1 z hz) (irr z)
        · exact hz'
theorem mem_range_get {d : Array Nat} {L x : Nat} (h : x ∈ (List.range L).map (d[·]!)) : ∃ j, j < L ∧ d[j]! = x := by
  simpa using h
theorem srt_pairwise {c : Nat → Nat → Int} {d : Array Nat} {L : Nat} (h : Srt c d 0 L) : ((List.range L).map (d[·]!)).Pairwise (Prec c) := by
  rw [List.pairwise_map]
  refine List.Pairwise.imp_of_mem ?_ (List.pairwise_lt_range (n := L))
  intro i j hi hj hij
  exact h i j (Nat.zero_le _) hij (List.mem_range.1 hj)
theorem comp_pairwise {c : Nat → Nat → Int} {S : Nat → List Int} {d : Array Nat} {L : Nat} (h : Srt c d 0 L) : (comp S d L).Pairwise (Prec c) := by
  unfold comp
  rw [List.pairwise_map]
  refine List.Pairwise.imp_of_mem ?_ (List.Pairwise.filter _ (List.pairwise_lt_range (n := L)))
  intro i j hi hj hij
  exact h i j (Nat.zero_le _) hij (List.mem_range.1 (List.mem_filter.1 hj).1)
/-- What slices.CompactFunc leaves of the sorted row: the first of each suffix. -/
theorem comp_mem {rev : Bool} {S : Nat → List Int} {d : Array Nat} {L : Nat} {lv : List Nat} (hs : Srt (cmpR rev S) d 0 L) (hm : ∀ x, x ∈ lv ↔ ∃ j, j < L ∧ d[j]! = x) (x : Nat) : x ∈ comp S d L ↔ x ∈ lv ∧ fstB S lv x = true := by
  have O := cmpR_ord rev S
  rw [fstB_iff]
  constructor
  · intro h
    unfold comp at h
    obtain ⟨j, hj, rfl⟩ := List.mem_map.1 h
    obtain ⟨hjL, hk⟩ := List.mem_filter.1 hj
    have hjL := List.mem_range.1 hjL
    refine ⟨(hm _).2 ⟨j, hjL, rfl⟩, fun y hy hS => ?_⟩
    obtain ⟨t, ht, rfl⟩ := (hm y).1 hy
    have hz : cmpR rev S d[t]! d[j]! = 0 := (cmpR_zero rev S _ _).2 hS
    by_cases p : t = j
    · subst p; exact Nat.le_refl _
    · by_cases q : j < t
      · have := hs j t (Nat.zero_le _) q ht
        have ha := O.anti d[t]! d[j]!
        rcases this with h | ⟨_, h⟩ <;> omega
      · exfalso
        have hk' : j = 0 ∨ S d[j]! ≠ S d[j - 1]! := by simpa [keepB] using hk
        rcases hk' with h0 | hne
        · omega
        · apply hne
          have h1 := hs (j - 1) j (Nat.zero_le _) (by omega) hjL
          by_cases r : t = j - 1
          · rw [← r]; exact hS.symm
          · have h2 := hs t (j - 1) (Nat.zero_le _) (by omega) (by omega)
            have : ¬ cmpR rev S d[j - 1]! d[j]! < 0 := fun hlt => by
              have := lt_left O h2 hlt
              omega
            rcases h1 with h1 | ⟨h1, _⟩
            · exact absurd h1 this
            · exact ((cmpR_zero rev S _ _).1 h1).symm
  · rintro ⟨hx, hf⟩
    obtain ⟨j, hj, rfl⟩ := (hm x).1 hx
    unfold comp
    refine List.mem_map.2 ⟨j, List.mem_filter.2 ⟨List.mem_range.2 hj, ?_⟩, rfl⟩
    by_cases p : j = 0
    · simp [keepB, p]
    · have : S d[j]! ≠ S d[j - 1]! := fun e => by
        have hy := hf d[j - 1]! ((hm _).2 ⟨j - 1, by omega, rfl⟩) e.symm
        have hp := hs (j - 1) j (Nat.zero_le _) (by omega) hj
        have hz : cmpR rev S d[j - 1]! d[j]! = 0 := (cmpR_zero rev S _ _).2 e.symm
        rcases hp with h | ⟨_, h⟩ <;> omega
      simp [keepB, this]
theorem sm_mem {d d' : Array Nat} {L : Nat} (h : Sm d d' 0 L) (x : Nat) : (∃ j, j < L ∧ d'[j]! = x) ↔ ∃ j, j < L ∧ d[j]! = x := by
  constructor
  · rintro ⟨j, hj, rfl⟩
    obtain ⟨i, _, h2, h3⟩ := h.1 j (Nat.zero_le _) hj
    exact ⟨i, h2, h3.symm⟩
  · rintro ⟨j, hj, rfl⟩
    obtain ⟨i, _, h2, h3⟩ := h.2 j (Nat.zero_le _) hj
    exact ⟨i, h2, h3⟩
theorem toArray_mem (l : List Nat) (x : Nat) : x ∈ l ↔ ∃ j, j < l.length ∧ l.toArray[j]! = x := by
  constructor
  · intro h
    obtain ⟨j, hj, rfl⟩ := List.getElem_of_mem h
    exact ⟨j, hj, by simp [hj]⟩
  · rintro ⟨j, hj, rfl⟩
    simp [hj]
/-- The stable sort, compacted, IS the first of each suffix, sorted. -/
theorem comp_is {rev : Bool} {S : Nat → List Int} {lv : List Nat} {d1 d4 : Array Nat} (h1 : Mg (cmpR rev S) lv.toArray d1 0 lv.length) (h4 : Mg (cmpR rev S) (lv.filter (fstB S lv)).toArray d4 0 (lv.filter (fstB S lv)).length) :
    comp S d1 lv.length = (List.range (lv.filter (fstB S lv)).length).map (d4[·]!) := by
  refine prec_ext (cmpR_ord rev S) _ _ (comp_pairwise h1.srt) (srt_pairwise h4.srt) fun x => ?_
  have hm : ∀ x, x ∈ lv ↔ ∃ j, j < lv.length ∧ d1[j]! = x := fun x => by rw [sm_mem h1.sm x]; exact toArray_mem lv x
  rw [comp_mem h1.srt hm x]
  constructor
  · rintro ⟨hx, hf⟩
    have : x ∈ lv.filter (fstB S lv) := List.mem_filter.2 ⟨hx, hf⟩
    obtain ⟨j, hj, e⟩ := (sm_mem h4.sm x).2 ((toArray_mem _ x).1 this)
    exact List.mem_map.2 ⟨j, List.mem_range.2 hj, e⟩
  · intro h
    obtain ⟨j, hj, e⟩ := mem_range_get h
    have := (toArray_mem _ x).2 ((sm_mem h4.sm x).1 ⟨j, hj, e⟩)
    exact ⟨(List.mem_filter.1 this).1, (List.mem_filter.1 this).2⟩
/-- Whether lv[j] repeats a suffix is told by what is kept of those ahead of it. -/
theorem dup_iff {S : Nat → List Int} {lv : List Nat} (hlv : lv.Pairwise (· < ·)) {j : Nat} (hj : j < lv.length) : (∃ x ∈ (lv.take j).filter (fstB S lv), S x = S lv[j]) ↔ fstB S lv lv[j] = false := by
  have hlt : ∀ i (hi : i < lv.length) k (hk : k < lv.length), i < k → lv[i] < lv[k] := fun i hi k hk h => List.pairwise_iff_getElem.1 hlv i k hi hk h
  constructor
  · rintro ⟨x, hx, hS⟩
    obtain ⟨hx1, hx2⟩ := List.mem_filter.1 hx
    obtain ⟨i, hi, rfl⟩ := List.getElem_of_mem hx1
    have hi' : i < j := by simp at hi; omega
    by_cases h : fstB S lv lv[j] = true
    · have := fstB_iff.1 h (lv.take j)[i] (List.mem_of_mem_take hx1) hS
      have h2 := hlt i (by omega) j hj hi'
      simp at this
      omega
    · simpa using h
  · intro h
    have hex : ∃ y, y ∈ lv ∧ S y = S lv[j] ∧ y < lv[j] := by
      have hn : ¬ ∀ y ∈ lv, S y = S lv[j] → lv[j] ≤ y := fun hh => by
        rw [fstB_iff.2 hh] at h
        cases h
      false_or_by_contra
      rename_i hne
      exact hn fun y hy hS => by
        false_or_by_contra
        rename_i hlt'
        exact hne ⟨y, hy, hS, by omega⟩
    -- the least such
    have least : ∀ n y, y ≤ n → y ∈ lv → S y = S lv[j] → y < lv[j] → ∃ z, z ∈ lv ∧ S z = S lv[j] ∧ z < lv[j] ∧ fstB S lv z = true := by
      intro n
      induction n with
      | zero =>
        intro y hy h1 h2 h3
        exact ⟨y, h1, h2, h3, fstB_iff.2 fun u _ _ => by omega⟩
      | succ n ih =>
        intro y hy h1 h2 h3
        by_cases hf : fstB S lv y = true
        · exact ⟨y, h1, h2, h3, hf⟩
        · have : ∃ u, u ∈ lv ∧ S u = S y ∧ u < y := by
            false_or_by_contra
            rename_i hne
            exact hf (fstB_iff.2 fun u hu hS => by
              false_or_by_contra
              rename_i hlt'
              exact hne ⟨u, hu, hS, by omega⟩)
          obtain ⟨u, hu1, hu2, hu3⟩ := this
          exact ih u (by omega) hu1 (hu2.trans h2) (by omega)
    obtain ⟨y, hy1, hy2, hy3⟩ := hex
    obtain ⟨z, hz1, hz2, hz3, hz4⟩ := least y y (Nat.le_refl _) hy1 hy2 hy3
    obtain ⟨i, hi, rfl⟩ := List.getElem_of_mem hz1
    have hij : i < j := by
      false_or_by_contra
      rename_i hge
      by_cases e : i = j
      · subst e; omega
      · have := hlt j hj i hi (by omega)
        omega
    refine ⟨lv[i], List.mem_filter.2 ⟨?_, hz4⟩, hz2⟩
    have : (lv.take j)[i]'(by simp; omega) ∈ lv.take j := List.getElem_mem _
    simpa using this
theorem take_succ_filter (S : Nat → List Int) (lv : List Nat) {j : Nat} (hj : j < lv.length) : (lv.take (j + 1)).filter (fstB S lv) = (lv.take j).filter (fstB S lv) ++ (if fstB S lv lv[j] then [lv[j]] else []) := by
  rw [List.take_add_one, List.getElem?_eq_getElem hj, List.filter_append]
  congr 1
  by_cases h : fstB S lv lv[j] = true
  · simp [h]
  · simp [h]
theorem lvUp_pairwise (E : Nat → Key) (snap : Int) (i : Nat) : (lvUp E snap i).Pairwise (· < ·) := List.Pairwise.filter _ List.pairwise_lt_range
end Go.Proofs.Ybulkdkos
