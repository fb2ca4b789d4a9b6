/-
  LawS5582AWhole: the plain theory of the stable sort (no Go in it): rows of numbers (each a key's place in the input) in the order 'by key, then by place'; insertion sort, rotation and the symmetric merge keep and make that order.
-/
import Derived.Sort.LotA
import Derived.Sort.WalkA
import Derived.Shelf.SlSortCmp.Insertion
namespace Go.Proofs.Ybulkdkos
open Go.Sort
/-- What is asked of a comparison. -/
structure Ord (c : Nat → Nat → Int) : Prop where
  anti : ∀ i j, c j i = - c i j
  trans : ∀ i j k, c i j < 0 → c j k < 0 → c i k < 0
  congr : ∀ i j k, c i j = 0 → c i k = c j k
/-- By key, then by place. -/
def Prec (c : Nat → Nat → Int) (i j : Nat) : Prop := c i j < 0 ∨ (c i j = 0 ∧ i < j)
set_option linter.unusedVariables false
variable {c : Nat → Nat → Int}
theorem Prec.trans (O : Ord c) {i j k : Nat} (h1 : Prec c i j) (h2 : Prec c j k) : Prec c i k := by
  rcases h1 with h1 | ⟨h1, l1⟩ <;> rcases h2 with h2 | ⟨h2, l2⟩
  · exact Or.inl (O.trans _ _ _ h1 h2)
  · have a := O.congr j k i h2
    have b := O.anti i j
    have d := O.anti i k
    exact Or.inl (by omega)
  · have a := O.congr i j k h1
    exact Or.inl (by omega)
  · have a := O.congr i j k h1
    exact Or.inr ⟨by omega, by omega⟩
/-- The later place is the less only by its key. -/
theorem prec_of_lt {i j : Nat} (h : c j i < 0) : Prec c j i := Or.inl h
theorem prec_of_not (O : Ord c) {i j : Nat} (hij : i < j) (h : ¬ c j i < 0) : Prec c i j := by
  have := O.anti i j
  by_cases e : c i j = 0
  · exact Or.inr ⟨e, hij⟩
  · exact Or.inl (by omega)
def Srt (c : Nat → Nat → Int) (d : Array Nat) (a b : Nat) : Prop := ∀ i j, a ≤ i → i < j → j < b → Prec c d[i]! d[j]!
def Sm (d d' : Array Nat) (a b : Nat) : Prop := (∀ i, a ≤ i → i < b → ∃ j, a ≤ j ∧ j < b ∧ d'[i]! = d[j]!) ∧ ∀ j, a ≤ j → j < b → ∃ i, a ≤ i ∧ i < b ∧ d'[i]! = d[j]!
def Out (d d' : Array Nat) (a b : Nat) : Prop := d'.size = d.size ∧ ∀ i, i < a ∨ b ≤ i → d'[i]! = d[i]!
structure Mg (c : Nat → Nat → Int) (d d' : Array Nat) (a b : Nat) : Prop where
  out : Out d d' a b
  sm : Sm d d' a b
  srt : Srt c d' a b
structure Pre (c : Nat → Nat → Int) (d : Array Nat) (a m b : Nat) : Prop where
  l : Srt c d a m
  r : Srt c d m b
  x : ∀ i j, a ≤ i → i < m → m ≤ j → j < b → d[i]! < d[j]!
theorem Sm.refl (d : Array Nat) (a b : Nat) : Sm d d a b := ⟨fun i h1 h2 => ⟨i, h1, h2, rfl⟩, fun i h1 h2 => ⟨i, h1, h2, rfl⟩⟩
theorem Out.refl (d : Array Nat) (a b : Nat) : Out d d a b := ⟨rfl, fun _ _ => rfl⟩
theorem Sm.trans {d e f : Array Nat} {a b : Nat} (h : Sm d e a b) (k : Sm e f a b) : Sm d f a b := by
  refine ⟨fun i h1 h2 => ?_, fun j h1 h2 => ?_⟩
  · obtain ⟨j, j1, j2, j3⟩ := k.1 i h1 h2
    obtain ⟨t, t1, t2, t3⟩ := h.1 j j1 j2
    exact ⟨t, t1, t2, j3.trans t3⟩
  · obtain ⟨t, t1, t2, t3⟩ := h.2 j h1 h2
    obtain ⟨i, i1, i2, i3⟩ := k.2 t t1 t2
    exact ⟨i, i1, i2, i3.trans t3⟩
theorem Out.trans {d e f : Array Nat} {a b : Nat} (h : Out d e a b) (k : Out e f a b) : Out d f a b := ⟨k.1.trans h.1, fun i hi => (k.2 i hi).trans (h.2 i hi)⟩
theorem Out.wide {d e : Array Nat} {a b a' b' : Nat} (h : Out d e a b) (h1 : a' ≤ a) (h2 : b ≤ b') : Out d e a' b' := ⟨h.1, fun i hi => h.2 i (by omega)⟩
/-- The same elements in a part: the same elements in the whole. -/
theorem Sm.wide {d e : Array Nat} {a b a' b' : Nat} (h : Sm d e a b) (ho : Out d e a b) (h1 : a' ≤ a) (h2 : b ≤ b') : Sm d e a' b' := by
  refine ⟨fun i i1 i2 => ?_, fun j j1 j2 => ?_⟩
  · by_cases hi : a ≤ i ∧ i < b
    · obtain ⟨j, p, q, r⟩ := h.1 i hi.1 hi.2
      exact ⟨j, by omega, by omega, r⟩
    · exact ⟨i, i1, i2, ho.2 i (by omega)⟩
  · by_cases hj : a ≤ j ∧ j < b
    · obtain ⟨i, p, q, r⟩ := h.2 j hj.1 hj.2
      exact ⟨i, by omega, by omega, r⟩
    · exact ⟨j, j1, j2, ho.2 j (by omega)⟩
theorem Srt.of_out {d e : Array Nat} {a b a' b' : Nat} (h : Srt c d a' b') (ho : Out d e a b) (hd : b' ≤ a ∨ b ≤ a') : Srt c e a' b' := by
  intro i j h1 h2 h3
  rw [ho.2 i (by omega), ho.2 j (by omega)]
  exact h i j h1 h2 h3
theorem Mg.triv {d : Array Nat} {a m b : Nat} (h : Pre c d a m b) (hm : m ≤ a ∨ b ≤ m) : Mg c d d a b := by
  refine ⟨Out.refl _ _ _, Sm.refl _ _ _, fun i j h1 h2 h3 => ?_⟩
  rcases hm with hm | hm
  · exact h.r i j (by omega) h2 h3
  · exact h.l i j h1 h2 (by omega)
/-- 'd' is 'd' with its parts [a, m), [m, b) exchanged. -/
structure Rot (d d' : Array Nat) (a m b : Nat) : Prop where
  size : d'.size = d.size
  lo : ∀ t, a ≤ t → t < a + (b - m) → d'[t]! = d[t + (m - a)]!
  hi : ∀ t, a + (b - m) ≤ t → t < b → d'[t]! = d[t - (b - m)]!
  out : ∀ i, i < a ∨ b ≤ i → d'[i]! = d[i]!
theorem Rot.triv (d : Array Nat) {a m b : Nat} (h1 : a ≤ m) (h2 : m ≤ b) (h : m = a ∨ m = b) : Rot d d a m b := by
  refine ⟨rfl, fun t ht ht2 => ?_, fun t ht ht2 => ?_, fun _ _ => rfl⟩
  · rcases h with rfl | rfl
    · simp
    · omega
  · rcases h with rfl | rfl
    · omega
    · simp
theorem Rot.isOut {d d' : Array Nat} {a m b : Nat} (h : Rot d d' a m b) : Out d d' a b := ⟨h.size, h.out⟩
theorem Rot.sm {d d' : Array Nat} {a m b : Nat} (h : Rot d d' a m b) (h1 : a ≤ m) (h2 : m ≤ b) : Sm d d' a b := by
  refine ⟨fun i i1 i2 => ?_, fun j j1 j2 => ?_⟩
  · by_cases hi : i < a + (b - m)
    · exact ⟨_, by omega, by omega, h.lo i i1 hi⟩
    · exact ⟨_, by omega, by omega, h.hi i (by omega) i2⟩
  · by_cases hj : j < m
    · refine ⟨j + (b - m), by omega, by omega, ?_⟩
      rw [h.hi _ (by omega) (by omega), Nat.add_sub_cancel]
    · refine ⟨j - (m - a), by omega, by omega, ?_⟩
      rw [h.lo _ (by omega) (by omega), Nat.sub_add_cancel (by omega)]
/-- What lies behind a rotation inside [a, b) is in order, where it is said of the old row. -/
theorem rot_srt (O : Ord c) {d d' : Array Nat} {a s m e b : Nat} (h : Rot d d' s m e) (h1 : a ≤ s) (h2 : s ≤ m) (h3 : m ≤ e) (h4 : e ≤ b)
    (pl : Srt c d a m) (pr : Srt c d m b) (hx : ∀ i j, s ≤ i → i < m → m ≤ j → j < e → Prec c d[j]! d[i]!) (hy : ∀ i j, a ≤ i → i < s → e ≤ j → j < b → Prec c d[i]! d[j]!) (hz : ∀ i j, a ≤ i → i < s → m ≤ j → j < e → Prec c d[i]! d[j]!) (hw : ∀ i j, s ≤ i → i < m → e ≤ j → j < b → Prec c d[i]! d[j]!) : Srt c d' a b := by
  have val : ∀ i, a ≤ i → i < b → ∃ t, d'[i]! = d[t]! ∧ ((i < s ∧ t = i) ∨ (s ≤ i ∧ i < s + (e - m) ∧ t = i + (m - s)) ∨ (s + (e - m) ≤ i ∧ i < e ∧ t = i - (e - m)) ∨ (e ≤ i ∧ t = i)) := by
    intro i i1 i2
    by_cases p : i < s
    · exact ⟨i, h.out i (by omega), Or.inl ⟨p, rfl⟩⟩
    · by_cases q : i < s + (e - m)
      · exact ⟨_, h.lo i (by omega) q, Or.inr (Or.inl ⟨by omega, q, rfl⟩)⟩
      · by_cases r : i < e
        · exact ⟨_, h.hi i (by omega) r, Or.inr (Or.inr (Or.inl ⟨by omega, r, rfl⟩))⟩
        · exact ⟨i, h.out i (by omega), Or.inr (Or.inr (Or.inr ⟨by omega, rfl⟩))⟩
  intro i j i1 ij j2
  obtain ⟨t, ht, ct⟩ := val i i1 (by omega)
  obtain ⟨u, hu, cu⟩ := val j (by omega) j2
  rw [ht, hu]
  rcases ct with ⟨p, rfl⟩ | ⟨p, q, rfl⟩ | ⟨p, q, rfl⟩ | ⟨p, rfl⟩ <;> rcases cu with ⟨p', rfl⟩ | ⟨p', q', rfl⟩ | ⟨p', q', rfl⟩ | ⟨p', rfl⟩
  · exact pl _ _ (by omega) (by omega) (by omega)
  · exact hz _ _ (by omega) (by omega) (by omega) (by omega)
  · exact pl _ _ (by omega) (by omega) (by omega)
  · exact hy _ _ (by omega) (by omega) (by omega) (by omega)
  · omega
  · exact pr _ _ (by omega) (by omega) (by omega)
  · exact hx _ _ (by omega) (by omega) (by omega) (by omega)
  · exact pr _ _ (by omega) (by omega) (by omega)
  · omega
  · omega
  · exact pl _ _ (by omega) (by omega) (by omega)
  · exact hw _ _ (by omega) (by omega) (by omega) (by omega)
  · omega
  · omega
  · omega
  · exact pr _ _ (by omega) (by omega) (by omega)
/-- One on the left. -/
theorem merge_one_left (O : Ord c) {d d' : Array Nat} {a i b : Nat} (h : Pre c d a (a + 1) b) (h1 : a + 1 ≤ i) (h2 : i ≤ b) (hl : ∀ t, a + 1 ≤ t → t < i → c d[t]! d[a]! < 0) (hr : ∀ t, i ≤ t → t < b → ¬ c d[t]! d[a]! < 0) (hd : Rot d d' a (a + 1) i) : Mg c d d' a b := by
  refine ⟨hd.isOut.wide (Nat.le_refl _) h2, (hd.sm (by omega) h1).wide hd.isOut (Nat.le_refl _) h2, ?_⟩
  refine rot_srt O hd (Nat.le_refl _) (by omega) h1 h2 h.l h.r (fun t j t1 t2 j1 j2 => ?_) (fun t j t1 t2 => absurd t2 (by omega)) (fun t j t1 t2 => absurd t2 (by omega)) (fun t j t1 t2 j1 j2 => ?_)
  · obtain rfl : t = a := by omega
    exact Or.inl (hl j j1 j2)
  · obtain rfl : t = a := by omega
    exact prec_of_not O (h.x _ _ (Nat.le_refl _) (by omega) (by omega) j2) (hr j j1 j2)
/-- One on the right. -/
theorem merge_one_right (O : Ord c) {d d' : Array Nat} {a i m : Nat} (h : Pre c d a m (m + 1)) (h1 : a ≤ i) (h2 : i ≤ m) (hl : ∀ t, a ≤ t → t < i → ¬ c d[m]! d[t]! < 0) (hr : ∀ t, i ≤ t → t < m → c d[m]! d[t]! < 0) (hd : Rot d d' i m (m + 1)) : Mg c d d' a (m + 1) := by
  refine ⟨hd.isOut.wide h1 (Nat.le_refl _), (hd.sm h2 (by omega)).wide hd.isOut h1 (Nat.le_refl _), ?_⟩
  refine rot_srt O hd h1 h2 (by omega) (Nat.le_refl _) h.l h.r (fun t j t1 t2 j1 j2 => ?_) (fun t j t1 t2 j1 j2 => by omega) (fun t j t1 t2 j1 j2 => ?_) (fun t j t1 t2 j1 j2 => by omega)
  · obtain rfl : j = m := by omega
    exact Or.inl (hr t t1 t2)
  · obtain rfl : j = m := by omega
    exact prec_of_not O (h.x _ _ t1 (by omega) (Nat.le_refl _) (by omega)) (hl t t1 t2)
/-- Both halves in order, every one of the left ahead of every one of the right: the whole is in order. -/
theorem Mg.join (O : Ord c) {d d1 d2 d3 : Array Nat} {a mid b : Nat} (h1 : a ≤ mid) (h2 : mid ≤ b) (ho : Out d d1 a b) (hs : Sm d d1 a b) (hx : ∀ i j, a ≤ i → i < mid → mid ≤ j → j < b → Prec c d1[i]! d1[j]!)
    (hl : Mg c d1 d2 a mid) (hr : Mg c d2 d3 mid b) : Mg c d d3 a b := by
  have s2 := hl.sm.wide hl.out (Nat.le_refl _) h2
  have s3 := hr.sm.wide hr.out h1 (Nat.le_refl _)
  refine ⟨(ho.trans (hl.out.wide (Nat.le_refl _) h2)).trans (hr.out.wide h1 (Nat.le_refl _)), (hs.trans s2).trans s3, fun i j i1 ij j2 => ?_⟩
  by_cases p : j < mid
  · rw [hr.out.2 i (by omega), hr.out.2 j (by omega)]
    exact hl.srt i j i1 ij p
  · by_cases q : mid ≤ i
    · exact hr.srt i j q ij j2
    · obtain ⟨u, u1, u2, u3⟩ := hr.sm.1 j (by omega) j2
      obtain ⟨t, t1, t2, t3⟩ := hl.sm.1 i i1 (by omega)
      rw [hr.out.2 i (by omega), u3, hl.out.2 u (by omega), t3]
      exact hx t u t1 t2 u1 u2
/-- The symmetric cut. s: the first place in [s0, r0) at which the mirror's key is the less; p = n - 1. -/
theorem sym_cut (O : Ord c) {d d1 : Array Nat} {a m b mid s e : Nat} (h : Pre c d a m b) (h1 : a < m) (h2 : m < b) (hmid : mid = (a + b) / 2) (he : e = mid + m - s)
    (hs1 : (if mid < m then mid + m - b else a) ≤ s) (hs2 : s ≤ (if mid < m then mid else m))
    (hl : ∀ t, (if mid < m then mid + m - b else a) ≤ t → t < s → ¬ c d[mid + m - 1 - t]! d[t]! < 0) (hr : s < (if mid < m then mid else m) → c d[mid + m - 1 - s]! d[s]! < 0) (hd : Rot d d1 s m e) :
    a ≤ s ∧ s ≤ m ∧ m ≤ e ∧ e ≤ b ∧ s ≤ mid ∧ mid ≤ e ∧ Pre c d1 a s mid ∧ Pre c d1 mid e b ∧ ∀ i j, a ≤ i → i < mid → mid ≤ j → j < b → Prec c d1[i]! d1[j]! := by
  have b1 : a ≤ s ∧ s ≤ m ∧ m ≤ e ∧ e ≤ b ∧ s ≤ mid ∧ mid ≤ e ∧ s + (e - m) = mid := by
    split at hs1 <;> split at hs2 <;> omega
  obtain ⟨q1, q2, q3, q4, q5, q6, q7⟩ := b1
  have hle : ∀ i j, a ≤ i → i ≤ j → j < m → d[i]! = d[j]! ∨ Prec c d[i]! d[j]! := fun i j k1 k2 k3 => by
    by_cases e' : i = j
    · exact Or.inl (by rw [e'])
    · exact Or.inr (h.l i j k1 (by omega) k3)
  have hre : ∀ i j, m ≤ i → i ≤ j → j < b → d[i]! = d[j]! ∨ Prec c d[i]! d[j]! := fun i j k1 k2 k3 => by
    by_cases e' : i = j
    · exact Or.inl (by rw [e'])
    · exact Or.inr (h.r i j k1 (by omega) k3)
  have thru : ∀ {u v x y : Nat}, (u = v ∨ Prec c u v) → Prec c v x → (x = y ∨ Prec c x y) → Prec c u y := by
    intro u v x y g1 g2 g3
    have : Prec c u x := by
      rcases g1 with rfl | g1
      · exact g2
      · exact g1.trans O g2
    rcases g3 with rfl | g3
    · exact this
    · exact this.trans O g3
  -- V is ahead of U
  have hVU : ∀ i j, s ≤ i → i < m → m ≤ j → j < e → Prec c d[j]! d[i]! := by
    intro i j i1 i2 j1 j2
    have hlt : s < (if mid < m then mid else m) := by split <;> omega
    have key := hr hlt
    have e1 : mid + m - 1 - s = e - 1 := by omega
    rw [e1] at key
    exact thru (hre j (e - 1) j1 (by omega) (by omega)) (Or.inl key) (hle s i q1 i1 i2)
  -- what lies left of U is ahead of what lies right of V
  have hAB : ∀ i j, a ≤ i → i < s → e ≤ j → j < b → Prec c d[i]! d[j]! := by
    intro i j i1 i2 j1 j2
    have hge : (if mid < m then mid + m - b else a) ≤ s - 1 := by split <;> omega
    have key := hl (s - 1) hge (by omega)
    have e1 : mid + m - 1 - (s - 1) = e := by omega
    rw [e1] at key
    have kp := prec_of_not O (h.x (s - 1) e (by omega) (by omega) (by omega) (by omega)) key
    exact thru (hle i (s - 1) i1 (by omega) (by omega)) kp (hre e j (by omega) j1 j2)
  have vlo : ∀ t, s ≤ t → t < mid → d1[t]! = d[t + (m - s)]! := fun t t1 t2 => hd.lo t t1 (by omega)
  have vhi : ∀ t, mid ≤ t → t < e → d1[t]! = d[t - (e - m)]! := fun t t1 t2 => hd.hi t (by omega) t2
  refine ⟨q1, q2, q3, q4, q5, q6, ⟨?_, ?_, ?_⟩, ⟨?_, ?_, ?_⟩, ?_⟩
  · intro i j k1 k2 k3
    rw [hd.out i (by omega), hd.out j (by omega)]
    exact h.l i j k1 k2 (by omega)
  · intro i j k1 k2 k3
    rw [vlo i k1 (by omega), vlo j (by omega) k3]
    exact h.r _ _ (by omega) (by omega) (by omega)
  · intro i j k1 k2 k3 k4
    rw [hd.out i (by omega), vlo j k3 k4]
    exact h.x _ _ k1 (by omega) (by omega) (by omega)
  · intro i j k1 k2 k3
    rw [vhi i k1 (by omega), vhi j (by omega) k3]
    exact h.l _ _ (by omega) (by omega) (by omega)
  · intro i j k1 k2 k3
    rw [hd.out i (by omega), hd.out j (by omega)]
    exact h.r i j (by omega) k2 k3
  · intro i j k1 k2 k3 k4
    rw [vhi i k1 k2, hd.out j (by omega)]
    exact h.x _ _ (by omega) (by omega) (by omega) k4
  · intro i j i1 i2 j1 j2
    by_cases p : i < s
    · rw [hd.out i (by omega)]
      by_cases r : j < e
      · rw [vhi j j1 r]
        exact h.l _ _ i1 (by omega) (by omega)
      · rw [hd.out j (by omega)]
        exact hAB i j i1 p (by omega) j2
    · rw [vlo i (by omega) i2]
      by_cases r : j < e
      · rw [vhi j j1 r]
        exact hVU _ _ (by omega) (by omega) (by omega) (by omega)
      · rw [hd.out j (by omega)]
        exact h.r _ _ (by omega) (by omega) j2
/-- Insertion, one element. -/
theorem insInner_mg (O : Ord c) (a : Nat) : ∀ (j : Nat) (d : Array Nat), a ≤ j → j < d.size → Srt c d a j → (∀ i, a ≤ i → i < j → d[i]! < d[j]!) → Mg c d (insInner (ltOf c) a j d) a (j + 1) := by
  intro j
  induction j with
  | zero =>
    intro d h1 h2 hs hx
    rw [insInner]
    exact ⟨Out.refl _ _ _, Sm.refl _ _ _, fun i j k1 k2 k3 => by omega⟩
  | succ j ih =>
    intro d h1 h2 hs hx
    rw [insInner]
    by_cases hc : j + 1 > a ∧ c d[j + 1]! d[j]! < 0
    · rw [if_pos (by simp [ltOf]; exact hc)]
      have hg := swp_get d h2 (show j < d.size by omega)
      have ho : Out d (swp d (j + 1) j) a (j + 2) := ⟨size_swp _ _ _, fun i hi => by rw [hg, if_neg (by omega), if_neg (by omega)]⟩
      have hsm : Sm d (swp d (j + 1) j) a (j + 2) := by
        refine ⟨fun i i1 i2 => ?_, fun i i1 i2 => ?_⟩
        · by_cases p : i = j
          · exact ⟨j + 1, by omega, by omega, by rw [hg, if_pos p]⟩
          · by_cases q : i = j + 1
            · exact ⟨j, by omega, by omega, by rw [hg, if_neg p, if_pos q]⟩
            · exact ⟨i, i1, i2, by rw [hg, if_neg p, if_neg q]⟩
        · by_cases p : i = j
          · exact ⟨j + 1, by omega, by omega, by rw [hg, if_neg (by omega), if_pos rfl, p]⟩
          · by_cases q : i = j + 1
            · exact ⟨j, by omega, by omega, by rw [hg, if_pos rfl, q]⟩
            · exact ⟨i, i1, i2, by rw [hg, if_neg p, if_neg q]⟩
      have hm := ih (swp d (j + 1) j) (by omega) (by rw [size_swp]; omega) (fun i k k1 k2 k3 => by
        rw [hg, hg, if_neg (by omega), if_neg (by omega), if_neg (by omega), if_neg (by omega)]
        exact hs i k k1 k2 (by omega)) (fun i k1 k2 => by
        rw [hg, hg, if_neg (by omega), if_neg (by omega), if_pos rfl]
        exact hx i k1 (by omega))
      refine ⟨ho.trans (hm.out.wide (Nat.le_refl _) (by omega)), hsm.trans (hm.sm.wide hm.out (Nat.le_refl _) (by omega)), fun i k k1 k2 k3 => ?_⟩
      by_cases p : k < j + 1
      · exact hm.srt i k k1 k2 p
      · obtain rfl : k = j + 1 := by omega
        rw [hm.out.2 (j + 1) (by omega), hg, if_neg (by omega), if_pos rfl]
        obtain ⟨t, t1, t2, t3⟩ := hm.sm.1 i k1 (by omega)
        rw [t3, hg]
        by_cases q : t = j
        · rw [if_pos q]
          exact Or.inl hc.2
        · rw [if_neg q, if_neg (by omega)]
          exact hs t j t1 (by omega) (by omega)
    · rw [if_neg (by simp [ltOf]; intro h; have : ¬ c d[j + 1]! d[j]! < 0 := fun h' => hc ⟨h, h'⟩; omega)]
      refine ⟨Out.refl _ _ _, Sm.refl _ _ _, fun i k k1 k2 k3 => ?_⟩
      by_cases p : k < j + 1
      · exact hs i k k1 k2 p
      · obtain rfl : k = j + 1 := by omega
        have hn : ¬ c d[j + 1]! d[j]! < 0 := fun h' => hc ⟨by omega, h'⟩
        have hp := prec_of_not O (hx j (by omega) (by omega)) hn
        by_cases q : i = j
        · subst q; exact hp
        · exact (hs i j k1 (by omega) (by omega)).trans O hp
theorem insOuter_mg (O : Ord c) (a b : Nat) : ∀ (n i : Nat) (d : Array Nat), b - i = n → a ≤ i → b ≤ d.size → Srt c d a i → (∀ p q, a ≤ p → p < q → i ≤ q → q < b → d[p]! < d[q]!) → Mg c d (insOuter (ltOf c) a b i d) a (max i b) := by
  intro n
  induction n with
  | zero =>
    intro i d hn h1 h2 hs hx
    rw [insOuter_stop _ _ _ _ _ (by omega), show max i b = i by omega]
    exact ⟨Out.refl _ _ _, Sm.refl _ _ _, hs⟩
  | succ n ih =>
    intro i d hn h1 h2 hs hx
    rw [insOuter_go _ _ _ _ _ (by omega)]
    have hm := insInner_mg O a i d h1 (by omega) hs (fun p p1 p2 => hx p i p1 p2 (Nat.le_refl _) (by omega))
    have h2' := ih (i + 1) (insInner (ltOf c) a i d) (by omega) (by omega) (by rw [hm.out.1]; exact h2) hm.srt (fun p q p1 pq q1 q2 => by
      rw [hm.out.2 q (by omega)]
      by_cases hp : p < i + 1
      · obtain ⟨t, t1, t2, t3⟩ := hm.sm.1 p p1 hp
        rw [t3]
        exact hx t q t1 (by omega) (by omega) q2
      · rw [hm.out.2 p (by omega)]
        exact hx p q p1 pq (by omega) q2)
    rw [show max (i + 1) b = b by omega] at h2'
    rw [show max i b = b by omega]
    exact ⟨(hm.out.wide (Nat.le_refl _) (by omega)).trans h2'.out, (hm.sm.wide hm.out (Nat.le_refl _) (by omega)).trans h2'.sm, h2'.srt⟩
/-- Insertion sort over [a, b), the places rising in it. -/
theorem insertion_mg (O : Ord c) {a b : Nat} {d : Array Nat} (h1 : a ≤ b) (h2 : b ≤ d.size) (hx : ∀ p q, a ≤ p → p < q → q < b → d[p]! < d[q]!) : Mg c d (insertionSort (ltOf c) d a b) a b := by
  unfold insertionSort
  have := insOuter_mg O a b _ (a + 1) d rfl (by omega) h2 (fun i j k1 k2 k3 => by omega) (fun p q p1 pq q1 q2 => hx p q p1 pq q2)
  by_cases h : a < b
  · rwa [show max (a + 1) b = b by omega] at this
  · obtain rfl : a = b := by omega
    rw [insOuter_stop _ _ _ _ _ (by omega)]
    exact ⟨Out.refl _ _ _, Sm.refl _ _ _, fun i j k1 k2 k3 => by omega⟩
/-- The blocks of B are in order, and their places lie apart. -/
structure Blocks (c : Nat → Nat → Int) (d : Array Nat) (n B : Nat) : Prop where
  srt : ∀ e, B ∣ e → Srt c d e (min (e + B) n)
  cut : ∀ e, B ∣ e → ∀ i j, i < e → e ≤ j → j < n → d[i]! < d[j]!
theorem dvd_step {B e a : Nat} (h1 : B ∣ e) (h2 : B ∣ a) (h : e < a) : e + B ≤ a := by
  obtain ⟨x, rfl⟩ := h1
  obtain ⟨y, rfl⟩ := h2
  have hxy : x < y := Nat.lt_of_mul_lt_mul_left h
  have := Nat.mul_le_mul_left B hxy
  rw [Nat.mul_succ] at this
  exact this
/-- Half way through a pass. -/
structure Half (c : Nat → Nat → Int) (d : Array Nat) (n B a : Nat) : Prop where
  da : 2 * B ∣ a
  an : a ≤ n
  done : ∀ e, 2 * B ∣ e → e < a → Srt c d e (e + 2 * B)
  todo : ∀ e, B ∣ e → a ≤ e → Srt c d e (min (e + B) n)
  cut : ∀ e, B ∣ e → a ≤ e → ∀ i j, i < e → e ≤ j → j < n → d[i]! < d[j]!
  cut2 : ∀ e, 2 * B ∣ e → ∀ i j, i < e → e ≤ j → j < n → d[i]! < d[j]!
theorem two_dvd {B e : Nat} (h : 2 * B ∣ e) : B ∣ e := Nat.dvd_trans ⟨2, Nat.mul_comm 2 B⟩ h
theorem Half.start {d : Array Nat} {n B : Nat} (h : Blocks c d n B) : Half c d n B 0 :=
  ⟨Nat.dvd_zero _, Nat.zero_le _, fun e _ h => absurd h (by omega), fun e he _ => h.srt e he, fun e he _ => h.cut e he, fun e he => h.cut e (two_dvd he)⟩
theorem Half.pre {d : Array Nat} {n B a b : Nat} (h : Half c d n B a) (h1 : b = min (a + 2 * B) n) : Pre c d a (min (a + B) n) b := by
  subst h1
  have hda := two_dvd h.da
  have hdb : B ∣ a + B := Nat.dvd_add hda (Nat.dvd_refl B)
  refine ⟨h.todo a hda (Nat.le_refl _), fun i j k1 k2 k3 => ?_, fun i j k1 k2 k3 k4 => ?_⟩
  · exact h.todo (a + B) hdb (by omega) i j (by omega) k2 (by omega)
  · exact h.cut (a + B) hdb (by omega) i j (by omega) (by omega) (by omega)
theorem cut_kept {d d' : Array Nat} {n a b e : Nat} (ho : Out d d' a b) (hs : Sm d d' a b) (he : e ≤ a ∨ b ≤ e) (hb : b ≤ n) (h : ∀ i j, i < e → e ≤ j → j < n → d[i]! < d[j]!) : ∀ i j, i < e → e ≤ j → j < n → d'[i]! < d'[j]! := by
  have val : ∀ i, i < n → ∃ t, t < n ∧ d'[i]! = d[t]! ∧ (i < e → t < e) ∧ (e ≤ i → e ≤ t) := by
    intro i hi
    by_cases p : a ≤ i ∧ i < b
    · obtain ⟨t, t1, t2, t3⟩ := hs.1 i p.1 p.2
      exact ⟨t, by omega, t3, by omega, by omega⟩
    · exact ⟨i, hi, ho.2 i (by omega), fun h => h, fun h => h⟩
  intro i j i1 j1 j2
  obtain ⟨t, t0, t1, t2, t3⟩ := val i (by omega)
  obtain ⟨u, u0, u1, u2, u3⟩ := val j j2
  rw [t1, u1]
  exact h t u (t2 i1) (u3 j1) u0
theorem Half.step {d d' : Array Nat} {n B a : Nat} (hB : 0 < B) (h : Half c d n B a) (hb : a + 2 * B ≤ n) (hm : Mg c d d' a (a + 2 * B)) : Half c d' n B (a + 2 * B) := by
  have hda := two_dvd h.da
  refine ⟨Nat.dvd_add h.da (Nat.dvd_refl _), hb, fun e he hlt => ?_, fun e he hle => (h.todo e he (by omega)).of_out hm.out (by omega), fun e he hle => cut_kept hm.out hm.sm (by omega) hb (h.cut e he (by omega)), fun e he => ?_⟩
  · by_cases p : e < a
    · have := dvd_step he h.da p
      exact (h.done e he p).of_out hm.out (by omega)
    · by_cases q : e = a
      · subst q; exact hm.srt
      · have := dvd_step h.da he (by omega)
        omega
  · have hle : e ≤ a ∨ a + 2 * B ≤ e := by
      by_cases p : e ≤ a
      · exact Or.inl p
      · exact Or.inr (dvd_step h.da he (by omega))
    exact cut_kept hm.out hm.sm hle hb (h.cut2 e he)
/-- The pass's end. -/
theorem Half.finish {d d' : Array Nat} {n B a : Nat} (hB : 0 < B) (h : Half c d n B a) (hb : n < a + 2 * B) (hm : Mg c d d' a n) : Blocks c d' n (2 * B) := by
  refine ⟨fun e he => ?_, fun e he => ?_⟩
  · by_cases p : e < a
    · have := dvd_step he h.da p
      have hd := (h.done e he p).of_out (e := d') hm.out (by omega)
      intro i j k1 k2 k3
      exact hd i j k1 k2 (by omega)
    · by_cases q : e = a
      · subst q
        intro i j k1 k2 k3
        exact hm.srt i j k1 k2 (by omega)
      · have := dvd_step h.da he (by omega)
        intro i j k1 k2 k3
        omega
  · by_cases p : e ≤ a
    · exact cut_kept hm.out hm.sm (Or.inl p) (Nat.le_refl _) (h.cut2 e he)
    · have := dvd_step h.da he (by omega)
      intro i j k1 k2 k3
      omega
theorem Blocks.all {d : Array Nat} {n B : Nat} (h : Blocks c d n B) (hb : n ≤ B) : Srt c d 0 n := by
  have := h.srt 0 (Nat.dvd_zero _)
  rwa [show min (0 + B) n = n by omega] at this
/-- The first pass: blocks of 20 behind insertion sort. -/
structure First (c : Nat → Nat → Int) (d0 d : Array Nat) (n a : Nat) : Prop where
  da : 20 ∣ a
  size : d.size = d0.size
  done : ∀ e, 20 ∣ e → e < a → Srt c d e (e + 20)
  todo : ∀ p q, a ≤ p → p < q → q < n → d[p]! < d[q]!
  cut : ∀ e, 20 ∣ e → ∀ i j, i < e → e ≤ j → j < n → d[i]! < d[j]!
  sm : Sm d0 d 0 n
  out : Out d0 d 0 n
theorem First.start {d : Array Nat} {n : Nat} (h : ∀ p q, p < q → q < n → d[p]! < d[q]!) : First c d d n 0 :=
  ⟨Nat.dvd_zero _, rfl, fun e _ h => absurd h (by omega), fun p q _ => h p q, fun e _ i j k1 k2 k3 => h i j (by omega) k3, Sm.refl _ _ _, Out.refl _ _ _⟩
theorem First.step {d0 d d' : Array Nat} {n a : Nat} (h : First c d0 d n a) (hb : a + 20 ≤ n) (hm : Mg c d d' a (a + 20)) : First c d0 d' n (a + 20) := by
  refine ⟨Nat.dvd_add h.da (Nat.dvd_refl _), hm.out.1.trans h.size, fun e he hlt => ?_, fun p q k1 k2 k3 => ?_, fun e he => ?_, h.sm.trans (hm.sm.wide hm.out (Nat.zero_le _) hb), h.out.trans (hm.out.wide (Nat.zero_le _) hb)⟩
  · by_cases p : e < a
    · have := dvd_step he h.da p
      exact (h.done e he p).of_out hm.out (by omega)
    · by_cases q : e = a
      · subst q; exact hm.srt
      · have := dvd_step h.da he (by omega)
        omega
  · rw [hm.out.2 p (by omega), hm.out.2 q (by omega)]
    exact h.todo p q (by omega) k2 k3
  · have hle : e ≤ a ∨ a + 20 ≤ e := by
      by_cases p : e ≤ a
      · exact Or.inl p
      · exact Or.inr (dvd_step h.da he (by omega))
    exact cut_kept hm.out hm.sm hle hb (h.cut e he)
theorem First.finish {d0 d d' : Array Nat} {n a : Nat} (h : First c d0 d n a) (ha : a ≤ n) (hb : n < a + 20) (hm : Mg c d d' a n) : Blocks c d' n 20 ∧ Sm d0 d' 0 n ∧ Out d0 d' 0 n := by
  refine ⟨⟨fun e he => ?_, fun e he => ?_⟩, h.sm.trans (hm.sm.wide hm.out (Nat.zero_le _) (Nat.le_refl _)), h.out.trans (hm.out.wide (Nat.zero_le _) (Nat.le_refl _))⟩
  · by_cases p : e < a
    · have := dvd_step he h.da p
      have hd := (h.done e he p).of_out (e := d') hm.out (by omega)
      intro i j k1 k2 k3
      exact hd i j k1 k2 (by omega)
    · by_cases q : e = a
      · subst q
        intro i j k1 k2 k3
        exact hm.srt i j k1 k2 (by omega)
      · have := dvd_step h.da he (by omega)
        intro i j k1 k2 k3
        omega
  · by_cases p : e ≤ a
    · exact cut_kept hm.out hm.sm (Or.inl p) (Nat.le_refl _) (h.cut e he)
    · have := dvd_step h.da he (by omega)
      intro i j k1 k2 k3
      omega
end Go.Proofs.Ybulkdkos
