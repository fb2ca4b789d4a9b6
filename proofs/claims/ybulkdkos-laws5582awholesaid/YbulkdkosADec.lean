/-
  LawS5582AWhole: decide, walked: what it leaves of its argument and what it returns.
-/
import Derived.Test.YbulkdkosAComp
import Derived.Test.YbulkdkosAStable
import Derived.ArgAppend
import Derived.Below
import Derived.Deep.Upon
namespace Go.Proofs.Ybulkdkos
open Go.RowKit Go.Sort Go.Proofs Go.Lib
set_option linter.unusedVariables false
set_option linter.unusedSimpArgs false
theorem sort_cell {E : Nat → Key} {W : World} {g m : Nat} {dk : Array Nat} {os : Array Obj} {b : Nat} (o : Nat) (hb : b ≠ g) (hl : b < W.heap.size) : (sortWorldK (encE E) 4 W g 0 m dk os).cell? ⟨b, o, none⟩ = W.cell? ⟨b, o, none⟩ := by
  unfold sortWorldK
  rw [cell?_grow _ _ _ (by rw [size_putRowK]; exact hl), cell?_putRowK_other _ _ _ _ _ _ _ hb]
  rfl
theorem sort_heap {E : Nat → Key} {W : World} {g m : Nat} {dk : Array Nat} {os : Array Obj} {b : Nat} (hb : b ≠ g) (hl : b < W.heap.size) : (sortWorldK (encE E) 4 W g 0 m dk os).heap[b]? = W.heap[b]? := by
  unfold sortWorldK
  rw [heap_grow_old _ _ (by rw [size_putRowK]; exact hl)]
  have : g ≠ b := fun e => hb e.symm
  simp [putRowK, putRow, mapBlock, Sort.ahead, Array.getElem?_modify, this]
theorem BytesAt.other {W w' : World} {g : Nat} {a : Option Addr} {n : Nat} {xs : List Int} (h : BytesAt W a n xs) (hne : ∀ p, a = some p → p.block ≠ g) (hc : ∀ b o, b ≠ g → b < W.heap.size → w'.cell? ⟨b, o, none⟩ = W.cell? ⟨b, o, none⟩) (hs : W.heap.size ≤ w'.heap.size) : BytesAt w' a n xs :=
  ⟨h.1, fun hn => by
    obtain ⟨b, o, rfl, h2, h3⟩ := h.2 hn
    exact ⟨b, o, rfl, Nat.lt_of_lt_of_le h2 hs, fun j hj => by rw [hc b _ (hne _ rfl) h2]; exact h3 j hj⟩⟩
/-- What is known of the keys' bytes, and that they lie apart from the row in block g. -/
structure Els (W : World) (g : Nat) (E : Nat → Key) (S V : Nat → List Int) : Prop where
  s : ∀ x, BytesAt W (E x).sa (E x).sl (S x)
  v : ∀ x, BytesAt W (E x).va (E x).vl (V x)
  ns : ∀ x p, (E x).sa = some p → p.block ≠ g
  nv : ∀ x p, (E x).va = some p → p.block ≠ g
  ls : ∀ x, (E x).sl ≤ 140737488351232
  lv : ∀ x, (E x).vl ≤ 140737488351232
theorem Els.other {W w' : World} {g : Nat} {E : Nat → Key} {S V : Nat → List Int} (h : Els W g E S V) (hc : ∀ b o, b ≠ g → b < W.heap.size → w'.cell? ⟨b, o, none⟩ = W.cell? ⟨b, o, none⟩) (hs : W.heap.size ≤ w'.heap.size) : Els w' g E S V :=
  ⟨fun x => (h.s x).other (h.ns x) hc hs, fun x => (h.v x).other (h.nv x) hc hs, h.ns, h.nv, h.ls, h.lv⟩
/-- All but block g is as it was. -/
structure Fr (g : Nat) (w w' : World) : Prop where
  os : w'.os = w.os
  tape : w'.tape = w.tape
  output : w'.output = w.output
  size : w.heap.size ≤ w'.heap.size
  heap : ∀ b, b < w.heap.size → b ≠ g → w'.heap[b]? = w.heap[b]?
theorem Fr.refl (g : Nat) (w : World) : Fr g w w := ⟨rfl, rfl, rfl, Nat.le_refl _, fun _ _ _ => rfl⟩
theorem Fr.trans {g : Nat} {a b c : World} (h : Fr g a b) (k : Fr g b c) : Fr g a c :=
  ⟨k.os.trans h.os, k.tape.trans h.tape, k.output.trans h.output, Nat.le_trans h.size k.size, fun x hx hg => (k.heap x (Nat.lt_of_lt_of_le hx h.size) hg).trans (h.heap x hx hg)⟩
theorem Fr.cell {g : Nat} {w w' : World} (h : Fr g w w') {b : Nat} (o : Nat) (hb : b ≠ g) (hl : b < w.heap.size) : w'.cell? ⟨b, o, none⟩ = w.cell? ⟨b, o, none⟩ := World.cell?_of_block (h.heap b hl hb)
theorem Fr.of_swk {E : Nat → Key} {W w : World} {g : Nat} {dk : Array Nat} (h : SWK (encE E) 4 W g 0 dk w) : Fr g W w := by
  obtain ⟨m, os, rfl⟩ := h
  exact ⟨rfl, rfl, rfl, SWK.le (⟨m, os, rfl⟩ : SWK (encE E) 4 W g 0 dk _), fun b hb hg => sort_heap hg hb⟩
theorem Fr.of_below {g : Nat} {w w' : World} (h : Below w.heap.size w w') : Fr g w w' := ⟨h.os, h.tape, h.output, h.size, fun b hb _ => h.block b hb⟩
theorem cmpLays_of {E : Nat → Key} {S V : Nat → List Int} {W : World} {g bc bx size : Nat} {rev : Bool} (h1 : W.cell? ⟨bc, 0, none⟩ = some (.iface 26 (ptrV bx))) (n1 : bc ≠ g) (h2 : W.cell? ⟨bx, 0, none⟩ = some (.bool rev)) (n2 : bx ≠ g) (hE : Els W g E S V) : CmpLays Yba.prog 16 #[ptrV bc] (encE E) 4 (cmpR rev S) g 0 size W := by
  intro m os dk hdk x y
  have hE' := hE.other (w' := sortWorldK (encE E) 4 W g 0 m dk os) (fun b o hb hl => sort_cell o hb hl) (SWK.le (⟨m, os, rfl⟩ : SWK (encE E) 4 W g 0 dk _))
  exact less_any rev S x y bc bx (E x) (E y) _ (by rw [sort_cell 0 n1 (cell_lt' h1)]; exact h1) (by rw [sort_cell 0 n2 (cell_lt' h2)]; exact h2) (hE'.s x) (hE'.s y) (hE.ls x) (hE.ls y)
theorem eqLays_of {E : Nat → Key} {S V : Nat → List Int} {W : World} {g bc bx size : Nat} {rev : Bool} (h1 : W.cell? ⟨bc, 0, none⟩ = some (.iface 26 (ptrV bx))) (n1 : bc ≠ g) (h2 : W.cell? ⟨bx, 0, none⟩ = some (.bool rev)) (n2 : bx ≠ g) (hE : Els W g E S V) : EqLays E S g bc size W := by
  intro m os dk hdk x y
  have hE' := hE.other (w' := sortWorldK (encE E) 4 W g 0 m dk os) (fun b o hb hl => sort_cell o hb hl) (SWK.le (⟨m, os, rfl⟩ : SWK (encE E) 4 W g 0 dk _))
  exact same_any rev S x y bc bx (E x) (E y) _ (by rw [sort_cell 0 n1 (cell_lt' h1)]; exact h1) (by rw [sort_cell 0 n2 (cell_lt' h2)]; exact h2) (hE'.s x) (hE'.s y) (hE.ls x) (hE.ls y)
/-- The head of a row. -/
def headOf (d : Array Nat) (L : Nat) : Array Nat := (Array.range L).map fun t => d[t]!
theorem size_headOf (d : Array Nat) (L : Nat) : (headOf d L).size = L := by simp [headOf]
theorem get_headOf (d : Array Nat) {L t : Nat} (h : t < L) : (headOf d L)[t]! = d[t]! := by simp [headOf, h]
theorem holds_head {E : Nat → Key} {w : World} {g : Nat} {d : Array Nat} {L : Nat} (h : HoldsK (encE E) 4 w g 0 d) (hL : L ≤ d.size) : HoldsK (encE E) 4 w g 0 (headOf d L) := by
  intro j hj
  have hj' : j < L * 4 := by simpa [size_headOf] using hj
  have := h j (by rw [size_flatK]; omega)
  rw [get_flatK _ _ _ _ (by omega)] at this
  rw [get_flatK _ _ _ _ (by rw [size_headOf]; exact hj'), get_headOf d (by omega)]
  exact this
/-- The head turned, the rest as it was. -/
def onto (d dL : Array Nat) : Array Nat := (Array.range d.size).map fun t => if t < dL.size then dL[t]! else d[t]!
theorem size_onto (d dL : Array Nat) : (onto d dL).size = d.size := by simp [onto]
theorem get_onto (d dL : Array Nat) {t : Nat} (h : t < d.size) : (onto d dL)[t]! = if t < dL.size then dL[t]! else d[t]! := by simp [onto, h]
theorem holds_onto {E : Nat → Key} {W w : World} {g : Nat} {d dL : Array Nat} (h : HoldsK (encE E) 4 W g 0 d) (hg : g < W.heap.size) (hL : dL.size ≤ d.size) (hS : SWK (encE E) 4 W g 0 dL w) : HoldsK (encE E) 4 w g 0 (onto d dL) := by
  have hH := hS.holds hg (holds_head h hL) (by rw [size_headOf])
  intro j hj
  have hj' : j < d.size * 4 := by simpa [size_onto] using hj
  rw [get_flatK _ _ _ _ (by rw [size_onto]; exact hj'), get_onto _ _ (by omega)]
  by_cases p : j / 4 < dL.size
  · rw [if_pos p]
    have := hH j (by rw [size_flatK]; omega)
    rw [get_flatK _ _ _ _ (by omega)] at this
    exact this
  · rw [if_neg p]
    have h0 := h j (by rw [size_flatK]; exact hj')
    rw [get_flatK _ _ _ _ hj'] at h0
    obtain ⟨m, os, rfl⟩ := hS
    unfold sortWorldK
    refine ⟨?_, ?_⟩
    · rw [cell?_grow _ _ _ (by rw [size_putRowK]; exact hg)]
      unfold putRowK
      rw [cell?_putRow_other id _ g 0 _ _ (Or.inr (by rw [size_flatK]; simp; omega))]
      exact h0.1
    · rw [frozen?_grow _ _ _ (by rw [size_putRowK]; exact hg)]
      unfold putRowK
      rw [frozen?_putRow]
      exact h0.2
def liveB (E : Nat → Key) (snap : Int) (j : Nat) : Bool := decide ((E j).s < snap ∧ ((E j).k = 21 ∨ (E j).k = 20))
def hidP (E : Nat → Key) (snap : Int) (j : Nat) : Prop := (E j).s < snap ∧ (E j).k = 19
def lvUp (E : Nat → Key) (snap : Int) (i : Nat) : List Nat := (List.range i).filter (liveB E snap)
theorem lvUp_succ (E : Nat → Key) (snap : Int) (i : Nat) : lvUp E snap (i + 1) = lvUp E snap i ++ (if liveB E snap i then [i] else []) := by
  unfold lvUp
  rw [List.range_succ, List.filter_append]
  congr 1
  by_cases h : liveB E snap i = true
  · simp [h]
  · simp [h]
theorem lvUp_len (E : Nat → Key) (snap : Int) (i : Nat) : (lvUp E snap i).length ≤ i := by
  unfold lvUp
  exact Nat.le_trans (List.length_filter_le _ _) (by simp)
theorem lvUp_lt (E : Nat → Key) (snap : Int) (i : Nat) : ∀ p q, p < q → q < (lvUp E snap i).length → (lvUp E snap i)[p]! < (lvUp E snap i)[q]! := by
  intro p q pq hq
  have hs : (lvUp E snap i).Pairwise (· < ·) := List.Pairwise.filter _ List.pairwise_lt_range
  have := List.pairwise_iff_getElem.1 hs p q (by omega) hq pq
  simpa [List.getElem!_eq_getElem?_getD, show p < (lvUp E snap i).length by omega, hq] using this
/-- The row of decide's argument when i keys have been looked at. -/
structure DecRow (E : Nat → Key) (snap : Int) (n i : Nat) (dk : Array Nat) : Prop where
  size : dk.size = n
  lo : ∀ t, t < (lvUp E snap i).length → dk[t]! = (lvUp E snap i)[t]!
  hi : ∀ t, (lvUp E snap i).length ≤ t → t < n → dk[t]! = t
theorem DecRow.start (E : Nat → Key) (snap : Int) (n : Nat) : DecRow E snap n 0 (Array.range n) :=
  ⟨by simp, fun t ht => by simp [lvUp] at ht, fun t _ ht => by simp [ht]⟩
theorem DecRow.skip {E : Nat → Key} {snap : Int} {n i : Nat} {dk : Array Nat} (h : DecRow E snap n i dk) (hl : liveB E snap i = false) : DecRow E snap n (i + 1) dk := by
  have e : lvUp E snap (i + 1) = lvUp E snap i := by rw [lvUp_succ, hl]; simp
  exact ⟨h.size, by rw [e]; exact h.lo, by rw [e]; exact h.hi⟩
theorem DecRow.keep {E : Nat → Key} {snap : Int} {n i : Nat} {dk : Array Nat} (h : DecRow E snap n i dk) (hi : i < n) (hl : liveB E snap i = true) : DecRow E snap n (i + 1) (dk.setIfInBounds (lvUp E snap i).length i) ∧ (lvUp E snap (i + 1)).length = (lvUp E snap i).length + 1 := by
  have e : lvUp E snap (i + 1) = lvUp E snap i ++ [i] := by rw [lvUp_succ, hl]; simp
  have hle := lvUp_len E snap i
  have hs := h.size
  have hL : (lvUp E snap (i + 1)).length = (lvUp E snap i).length + 1 := by rw [e]; simp
  refine ⟨⟨by simp [hs], fun t ht => ?_, fun t h1 h2 => ?_⟩, hL⟩
  · rw [e]
    by_cases p : t = (lvUp E snap i).length
    · have h5 : (dk.setIfInBounds (lvUp E snap i).length i)[t]! = i := by rw [p]; simp [show (lvUp E snap i).length < dk.size by omega]
      have h6 : (lvUp E snap i ++ [i])[t]! = i := by
        rw [p, List.getElem!_eq_getElem?_getD, List.getElem?_append_right (by omega), Nat.sub_self]
        rfl
      rw [h5, h6]
    · have h1 : t < (lvUp E snap i).length := by omega
      have h2 : ¬ (lvUp E snap i).length = t := fun e => p e.symm
      have h3 := h.lo t h1
      have h4 : t < dk.size := by omega
      simp [Array.getElem!_eq_getD, Array.getD, h4, h2, List.getElem!_eq_getElem?_getD, List.getElem?_append_left h1] at h3 ⊢
      exact h3
  · rw [hL] at h1
    have h2' : ¬ (lvUp E snap i).length = t := by omega
    have h3 := h.hi t (by omega) h2
    have h4 : t < dk.size := by omega
    simp [Array.getElem!_eq_getD, Array.getD, h4, h2'] at h3 ⊢
    exact h3
/-- decide's answer: the row that it leaves, R keys of which it returns. -/
structure DecOut (E : Nat → Key) (S : Nat → List Int) (c : Nat → Nat → Int) (snap : Int) (n : Nat) (hid : Option Nat) (R : Nat) (d3 : Array Nat) : Prop where
  size : d3.size = n
  hidn : ∀ j, j < hid.getD n → ¬ hidP E snap j
  hids : ∀ h, hid = some h → h < n ∧ hidP E snap h
  row : ∃ d1 D, Mg c (lvUp E snap (hid.getD n)).toArray d1 0 (lvUp E snap (hid.getD n)).length ∧ D = (comp S d1 (lvUp E snap (hid.getD n)).length).length ∧ R = D + (if hid.isSome then 1 else 0) ∧
    (∀ t, t < D → d3[t]! = (comp S d1 (lvUp E snap (hid.getD n)).length)[t]!) ∧ (∀ h, hid = some h → d3[D]! = h) ∧ (∀ t, R ≤ t → t < (lvUp E snap (hid.getD n)).length → d3[t]! = n) ∧ (∀ t, R ≤ t → (lvUp E snap (hid.getD n)).length ≤ t → t < n → d3[t]! = t)
theorem Yba.info33 : (Yba.prog.info? 33).map (fun i => (i.zero, i.size, i.bytes)) = some (some (.agg #[.int .u8 0, .int .u64 0, .slice none 0 0, .slice none 0 0]), 4, 64) := by kernel_rfl
/-- 'append' of one key, with room. -/
theorem append_key (w : World) (g L n b : Nat) (q : Key) (ty : TypeId) (hroom : L + 1 ≤ n) (hb : w.cell? ⟨b, 0, none⟩ = some (.int .u8 q.k) ∧ w.cell? ⟨b, 1, none⟩ = some (.int .u64 q.s) ∧ w.cell? ⟨b, 2, none⟩ = some (.slice q.sa q.sl q.sc) ∧ w.cell? ⟨b, 3, none⟩ = some (.slice q.va q.vl q.vc)) {q' : Key} (ha : At4 w g L q') :
    (Builtin.append_ #[24, 24] ty #[.slice (some ⟨g, 0, none⟩) L n, .slice (some ⟨b, 0, none⟩) 1 1]).run Yba.prog w = .ok (.slice (some ⟨g, 0, none⟩) (L + 1) n) (w.setCells g (L * 4) q.cells) := by
  obtain ⟨i, hi, hz0, hz1, hz2⟩ := info_parts Yba.info33
  have := run_append_room_cells (P := Yba.prog) w 24 ty 33 i Yba.underlying24 hi g 0 L n ⟨b, 0, none⟩ 1 1 q.cells (by rw [hz1]; rfl) (by
    intro j u hj
    rw [Addr.add_lit, Nat.zero_add]
    match j, hj with
    | 0, hj => simp [Key.cells] at hj; subst hj; exact hb.1
    | 1, hj => simp [Key.cells] at hj; subst hj; exact hb.2.1
    | 2, hj => simp [Key.cells] at hj; subst hj; exact hb.2.2.1
    | 3, hj => simp [Key.cells] at hj; subst hj; exact hb.2.2.2) (by intro u hu; simp [Key.cells] at hu; rcases hu with rfl | rfl | rfl | rfl <;> rfl) hroom
    (by
      intro j hj
      have : j < 4 := hj
      rw [hz1, Nat.zero_add]
      have h : j = 0 ∨ j = 1 ∨ j = 2 ∨ j = 3 := by omega
      rcases h with rfl | rfl | rfl | rfl
      · rw [Nat.add_zero, ha.c0]; rfl
      · rw [ha.c1]; rfl
      · rw [ha.c2]; rfl
      · rw [ha.c3]; rfl)
    (by
      intro j hj
      have : j < 4 := hj
      rw [hz1, Nat.zero_add]
      have h : j = 0 ∨ j = 1 ∨ j = 2 ∨ j = 3 := by omega
      rcases h with rfl | rfl | rfl | rfl
      · rw [Nat.add_zero]; exact ha.f0
      · exact ha.f1
      · exact ha.f2
      · exact ha.f3)
  rw [hz1, Nat.zero_add] at this
  exact this
theorem DecRow.head {E : Nat → Key} {snap : Int} {n i : Nat} {dk : Array Nat} (h : DecRow E snap n i dk) : headOf dk (lvUp E snap i).length = (lvUp E snap i).toArray := by
  refine Array.ext (by simp [size_headOf]) fun t h1 h2 => ?_
  have ht : t < (lvUp E snap i).length := by simpa using h2
  have e1 := get_headOf dk ht
  rw [h.lo t ht] at e1
  rw [getElem!_pos (headOf dk (lvUp E snap i).length) t h1] at e1
  rw [e1, List.getElem!_eq_getElem?_getD]
  simp [ht]
theorem dec_none {E : Nat → Key} {S : Nat → List Int} {c : Nat → Nat → Int} {snap : Int} {n L D : Nat} {dk d1 d2 : Array Nat} (hL : (lvUp E snap n).length = L) (h : DecRow E snap n n dk) (hn : ∀ j, j < n → ¬ hidP E snap j) (hm : Mg c (headOf dk L) d1 0 L) (hc : CompOut S d1 d2 D L n) : DecOut E S c snap n none D (onto dk d2) := by
  subst hL
  have hle := lvUp_len E snap n
  have hD : D ≤ (lvUp E snap n).length := by rw [hc.len]; exact comp_len _ _ _
  have hs := hc.size
  refine ⟨by rw [size_onto]; exact h.size, hn, fun h' e => (by cases e), d1, D, (by show Mg c (lvUp E snap n).toArray d1 0 (lvUp E snap n).length; rw [← h.head]; exact hm), hc.len, by simp, fun t ht => ?_, fun h' e => (by cases e), fun t h1 h2 => ?_, fun t h1 h2 h3 => ?_⟩
  · rw [get_onto _ _ (by rw [h.size]; omega), if_pos (by omega)]; exact hc.lo t ht
  · have h2' : t < (lvUp E snap n).length := h2
    rw [get_onto _ _ (by rw [h.size]; omega), if_pos (by omega)]; exact hc.hi t h1 h2'
  · have h2' : (lvUp E snap n).length ≤ t := h2
    rw [get_onto _ _ (by rw [h.size]; omega), if_neg (by omega)]; exact h.hi t h2' h3
theorem dec_some {E : Nat → Key} {S : Nat → List Int} {c : Nat → Nat → Int} {snap : Int} {n i L D : Nat} {dk d1 d2 : Array Nat} (hL : (lvUp E snap i).length = L) (hi : i < n) (h : DecRow E snap n i dk) (hn : ∀ j, j < i → ¬ hidP E snap j) (hh : hidP E snap i) (hm : Mg c (headOf dk L) d1 0 L) (hc : CompOut S d1 d2 D L n) : DecOut E S c snap n (some i) (D + 1) ((onto dk d2).setIfInBounds D i) := by
  subst hL
  have hle := lvUp_len E snap i
  have hD : D ≤ (lvUp E snap i).length := by rw [hc.len]; exact comp_len _ _ _
  have hs := hc.size
  have hget : ∀ t, t < n → ((onto dk d2).setIfInBounds D i)[t]! = if D = t then i else (onto dk d2)[t]! := by
    intro t ht
    have h4 : t < (onto dk d2).size := by rw [size_onto, h.size]; exact ht
    by_cases p : D = t
    · subst p; simp [h4]
    · simp [Array.getElem!_eq_getD, Array.getD, h4, p]
  refine ⟨by simp [size_onto, h.size], hn, fun h' e => by cases e; exact ⟨hi, hh⟩, d1, D, (by show Mg c (lvUp E snap i).toArray d1 0 (lvUp E snap i).length; rw [← h.head]; exact hm), hc.len, by simp, fun t ht => ?_, fun h' e => ?_, fun t h1 h2 => ?_, fun t h1 h2 h3 => ?_⟩
  · rw [hget t (by omega), if_neg (by omega), get_onto _ _ (by rw [h.size]; omega), if_pos (by omega)]; exact hc.lo t ht
  · cases e
    rw [hget D (by omega), if_pos rfl]
  · have h2' : t < (lvUp E snap i).length := h2
    rw [hget t (by omega), if_neg (by omega), get_onto _ _ (by rw [h.size]; omega), if_pos (by omega)]; exact hc.hi t (by omega) h2'
  · have h2' : (lvUp E snap i).length ≤ t := h2
    rw [hget t h3, if_neg (by omega), get_onto _ _ (by rw [h.size]; omega), if_neg (by omega)]; exact h.hi t h2' h3
theorem holds_set {E : Nat → Key} {w : World} {g : Nat} {d : Array Nat} {D i : Nat} (h : HoldsK (encE E) 4 w g 0 d) (hD : D < d.size) : HoldsK (encE E) 4 (w.setCells g (D * 4) (E i).cells) g 0 (d.setIfInBounds D i) := by
  have := holds_setCells_c h (D * 4) (encE E i) (by rw [encE_len, size_flatK]; omega)
  rw [setMany_set E d D i hD, Nat.zero_add] at this
  exact this
theorem tape_setCells (g : Nat) : ∀ (vs : List Value) (s : Nat) (w : World), (w.setCells g s vs).tape = w.tape
  | [], _, _ => rfl
  | v :: r, s, w => by rw [World.setCells, tape_setCells g r (s + 1)]; rfl
theorem Fr.setCells {g : Nat} {w w' : World} (h : Fr g w w') (s : Nat) (vs : List Value) : Fr g w (w'.setCells g s vs) :=
  ⟨by rw [World.os_setCells]; exact h.os, by rw [show (w'.setCells g s vs).tape = w'.tape from tape_setCells g vs s w']; exact h.tape, by rw [World.output_setCells]; exact h.output, by rw [size_setCells]; exact h.size, fun b hb hg => by rw [World.heap_setCells_other _ _ _ _ (Nat.lt_of_lt_of_le hb h.size) hg]; exact h.heap b hb hg⟩
theorem wpList_append_run {P : Program} (w : World) {ops : Array Oper} {rest : List Oper} {o : Oper} {a : Act} {Q : Exit → Act → World → Prop}
    (hg : o.guard = none) (s x : Operand) (t : TypeId) (hop : o.op = Op.call { callee := Callee.builtin Builtin.append, args := #[s, x], argTypes := #[t, t] })
    (v1 v2 v : Value) (w' : World) (hs : a.eval s = v1) (hx : a.eval x = v2) (hrun : ∀ ty, (Builtin.append_ #[t, t] ty #[v1, v2]).run P w = .ok v w') (hK : wpList P ops Q rest (a.put o.dst v) w') : wpList P ops Q (o :: rest) a w := by
  refine wpList_plain hg fun K hK' => ?_
  unfold Oper.wp
  simp [execOp, hop, resolve, invoke, builtin, hs, hx, hrun, Result.andThen]
  exact hK' _ _ hK
set_option maxRecDepth 100000 in
set_option maxHeartbeats 2000000 in
theorem decide_any (E : Nat → Key) (S V : Nat → List Int) (rev : Bool) (snap : Int) (g n bx : Nat) (w : World) (hn : n ≤ 4096) (hH : HoldsK (encE E) 4 w g 0 (Array.range n)) (hg : g < w.heap.size) (hE : Els w g E S V) (hb : w.cell? ⟨bx, 0, none⟩ = some (.bool rev)) (hbg : bx ≠ g) (hz : E n = ⟨0, 0, none, 0, 0, none, 0, 0⟩) :
    Calls Yba.prog 8 #[.iface 26 (ptrV bx), .slice (some ⟨g, 0, none⟩) n n, .int .u64 snap] w fun e w' => ∃ hid R d3, e = .returned (.slice (some ⟨g, 0, none⟩) R n) ∧ Fr g w w' ∧ HoldsK (encE E) 4 w' g 0 d3 ∧ DecOut E S (cmpR rev S) snap n hid R d3 := by
  have hfr : Fr g w (w.alloc (.cells #[.iface 26 (ptrV bx)] 59)) := Fr.of_below ((Below.refl _ _).alloc (Nat.le_refl _) _)
  have hH1 : HoldsK (encE E) 4 (w.alloc (.cells #[.iface 26 (ptrV bx)] 59)) g 0 (Array.range n) := by rw [alloc_eq_grow]; exact holdsK_grow _ _ _ _ _ _ _ hg hH
  have hbc : (w.alloc (.cells #[.iface 26 (ptrV bx)] 59)).cell? ⟨w.heap.size, 0, none⟩ = some (.iface 26 (ptrV bx)) := by simp
  have hlx := cell_lt' hb
  have hbx : (w.alloc (.cells #[.iface 26 (ptrV bx)] 59)).cell? ⟨bx, 0, none⟩ = some (.bool rev) := by rw [hfr.cell 0 hbg hlx]; exact hb
  have hE1 := hE.other (w' := w.alloc (.cells #[.iface 26 (ptrV bx)] 59)) (fun b o h1 h2 => hfr.cell o h1 h2) hfr.size
  have hg1 : g < (w.alloc (.cells #[.iface 26 (ptrV bx)] 59)).heap.size := Nat.lt_of_lt_of_le hg hfr.size
  have hsz1 : (w.alloc (.cells #[.iface 26 (ptrV bx)] 59)).heap.size = w.heap.size + 1 := by simp
  have H0 : Hid (Fr g w (w.alloc (.cells #[.iface 26 (ptrV bx)] 59)) ∧ HoldsK (encE E) 4 (w.alloc (.cells #[.iface 26 (ptrV bx)] 59)) g 0 (Array.range n) ∧ (w.alloc (.cells #[.iface 26 (ptrV bx)] 59)).cell? ⟨w.heap.size, 0, none⟩ = some (.iface 26 (ptrV bx)) ∧ (w.alloc (.cells #[.iface 26 (ptrV bx)] 59)).cell? ⟨bx, 0, none⟩ = some (.bool rev) ∧ Els (w.alloc (.cells #[.iface 26 (ptrV bx)] 59)) g E S V ∧ g < (w.alloc (.cells #[.iface 26 (ptrV bx)] 59)).heap.size) := ⟨hfr, hH1, hbc, hbx, hE1, hg1⟩
  have HZ : Hid (E n = ⟨0, 0, none, 0, 0, none, 0, 0⟩) := hz
  have HBG : Hid (bx ≠ g ∧ g < w.heap.size ∧ bx < w.heap.size) := ⟨hbg, hg, hlx⟩
  clear hfr hH1 hbc hbx hE1 hg1 hH hE hb hz hsz1
  go_enter Yba.func8, Yba.ntmps8
  go_wp2_with fail
  generalize w.alloc (.cells #[.iface 26 (ptrV bx)] 59) = W1 at *
  go_loopg [7, 8, 15] n (fun g' v7 v8 v15 wr => ∃ (i : Nat) (dk : Array Nat), n - i ≤ g' ∧ i ≤ n ∧ v15 = .int .i64 i ∧ v8 = .pointer none ∧ v7 = .slice (some ⟨g, 0, none⟩) (lvUp E snap i).length n ∧ SWK (encE E) 4 W1 g 0 dk wr ∧ DecRow E snap n i dk ∧ ∀ j, j < i → ¬ hidP E snap j)
  case atStart => exact ⟨0, Array.range n, by omega, by omega, rfl, rfl, rfl, SWK.start H0.out.2.1, DecRow.start E snap n, fun j hj => absurd hj (by omega)⟩
  case round =>
    obtain ⟨i, dk, hgi, hin, rfl, rfl, rfl, hSk, hD, hnh⟩ := hrel
    have HSk : Hid (SWK (encE E) 4 W1 g 0 dk wr) := hSk
    have HD : Hid (DecRow E snap n i dk ∧ ∀ j, j < i → ¬ hidP E snap j) := ⟨hD, hnh⟩
    have hLi := lvUp_len E snap i
    obtain ⟨L, hL⟩ : ∃ L, (lvUp E snap i).length = L := ⟨_, rfl⟩
    rw [hL] at hLi ⊢
    have HL : Hid ((lvUp E snap i).length = L) := hL
    have hdk : dk.size = n := hD.size
    clear hSk hD hnh hL
    by_cases hlt : i < n
    · have hHd := HSk.out.holds H0.out.2.2.2.2.2 H0.out.2.1 (by simp [hdk])
      have hii : dk[i]! = i := HD.out.1.hi i (by rw [HL.out]; omega) hlt
      have A := at4_of hHd (i := i) (by omega)
      rw [hii] at A
      have AL := at4_of hHd (i := L) (by omega)
      have HAL : Hid (At4 wr g L (E dk[L]!)) := AL
      obtain ⟨x, hx⟩ : ∃ x, E i = x := ⟨_, rfl⟩
      rw [hx] at A
      have HX : Hid (E i = x) := hx
      obtain ⟨x0, x1, x2, x3, x4, x5, x6, x7⟩ := x
      obtain ⟨a0, a1, a2, a3, f0, f1, f2, f3⟩ := A
      simp only at a0 a1 a2 a3
      clear f0 f1 f2 f3 AL hHd hii hx
      by_cases h1 : x1 < snap
      · by_cases h2 : x0 = 19
        · have q2 : (x0 == 19) = true := by simp [h2]
          have HH2 : Hid (x0 = 19) := h2
          clear h2
          go_wp2_with fail
          have HSt : Hid (SWK (encE E) 4 W1 g 0 dk (wr.alloc (.cells #[.int .u8 x0, .int .u64 x1, .slice x2 x3 x4, .slice x5 x6 x7] 33))) := HSk.out.alloc _
          generalize wr.alloc (.cells #[.int .u8 x0, .int .u64 x1, .slice x2 x3 x4, .slice x5 x6 x7] 33) = Wt at *
          clear a0 a1 a2 a3 HAL HSk q2
          have hHt := HSt.out.holds H0.out.2.2.2.2.2 H0.out.2.1 (by simp [hdk])
          have hgt : g < Wt.heap.size := Nat.lt_of_lt_of_le H0.out.2.2.2.2.2 HSt.out.le
          have hft := Fr.of_swk HSt.out
          have hEt := H0.out.2.2.2.2.1.other (w' := Wt) (fun b o h1 h2 => hft.cell o h1 h2) hft.size
          have ht1 : Wt.cell? ⟨w.heap.size, 0, none⟩ = some (.iface 26 (ptrV bx)) := by rw [hft.cell 0 (by have := HBG.out.2.1; omega) (cell_lt' H0.out.2.2.1)]; exact H0.out.2.2.1
          have ht2 : Wt.cell? ⟨bx, 0, none⟩ = some (.bool rev) := by rw [hft.cell 0 HBG.out.1 (cell_lt' H0.out.2.2.2.1)]; exact H0.out.2.2.2.1
          have T := sortStable_any E (cmpR rev S) (cmpR_ord rev S) g L n w.heap.size Wt (headOf dk L) (holds_head hHt (by omega)) hgt (cmpLays_of ht1 (by have := HBG.out.2.1; omega) ht2 HBG.out.1 hEt) (size_headOf dk L) (by omega) (fun p q pq hq => by
            rw [get_headOf dk (by omega), get_headOf dk hq, HD.out.1.lo p (by rw [HL.out]; omega), HD.out.1.lo q (by rw [HL.out]; omega)]
            exact lvUp_lt E snap i p q pq (by rw [HL.out]; exact hq))
          have HEQ : Hid (EqLays E S g w.heap.size (headOf dk L).size Wt) := eqLays_of ht1 (by have := HBG.out.2.1; omega) ht2 HBG.out.1 hEt
          have HHt : Hid (HoldsK (encE E) 4 Wt g 0 dk) := hHt
          have HFt : Hid (Fr g w Wt) := H0.out.1.trans hft
          clear hHt hft hEt ht1 ht2
          refine T.mono ?_
          rintro e w2 ⟨rfl, d1, hS1, hM1⟩
          clear T
          have hd1 : d1.size = L := by rw [hM1.out.1, size_headOf]
          have T2 := compact_any E S g L n w.heap.size n Wt (headOf dk L) d1 w2 (holds_head HHt.out (by omega)) hgt HEQ.out HZ.out (by rw [hd1, size_headOf]) hd1 (by omega) (by omega) hS1
          have HM1 : Hid (Mg (cmpR rev S) (headOf dk L) d1 0 L) := hM1
          clear hS1 hM1 HEQ
          go_wp2_with fail
          refine T2.mono ?_
          rintro e w3 ⟨D, d2, rfl, hS2, hC2⟩
          clear T2
          have hDL : D ≤ L := by rw [hC2.len]; exact comp_len _ _ _
          have hd2 : d2.size = L := hC2.size
          have hHo := holds_onto HHt.out hgt (by omega) hS2
          have hoi : (onto dk d2)[i]! = i := by rw [get_onto _ _ (by omega), if_neg (by omega)]; exact HD.out.1.hi i (by rw [HL.out]; omega) hlt
          have A3 := at4_of hHo (i := i) (by rw [size_onto]; omega)
          rw [hoi, HX.out] at A3
          have AD := at4_of hHo (i := D) (by rw [size_onto]; omega)
          have hg3 : g < w3.heap.size := Nat.lt_of_lt_of_le hgt hS2.le
          have hf3 := HFt.out.trans (Fr.of_swk hS2)
          have HC2 : Hid (CompOut S d1 d2 D L n) := hC2
          obtain ⟨o, ho⟩ : ∃ o : Obj, o = .cells #[.int .u8 x0, .int .u64 x1, .slice x2 x3 x4, .slice x5 x6 x7] 33 := ⟨_, rfl⟩
          have hH4 : HoldsK (encE E) 4 (w3.alloc o) g 0 (onto dk d2) := by rw [alloc_eq_grow]; exact holdsK_grow _ _ _ _ _ _ _ hg3 hHo
          have hap : ∀ ty, (Builtin.append_ #[24, 24] ty #[.slice (some ⟨g, 0, none⟩) D n, .slice (some ⟨w3.heap.size, 0, none⟩) 1 1]).run Yba.prog (w3.alloc o) = .ok (.slice (some ⟨g, 0, none⟩) (D + 1) n) ((w3.alloc o).setCells g (D * 4) (Key.cells ⟨x0, x1, x2, x3, x4, x5, x6, x7⟩)) := fun ty =>
            append_key (w3.alloc o) g D n w3.heap.size ⟨x0, x1, x2, x3, x4, x5, x6, x7⟩ ty (by omega) (by rw [ho]; refine ⟨?_, ?_, ?_, ?_⟩ <;> simp) (at4_of hH4 (i := D) (by rw [size_onto]; omega))
          have HF : Hid (Fr g w ((w3.alloc o).setCells g (D * 4) (Key.cells ⟨x0, x1, x2, x3, x4, x5, x6, x7⟩)) ∧ HoldsK (encE E) 4 ((w3.alloc o).setCells g (D * 4) (Key.cells ⟨x0, x1, x2, x3, x4, x5, x6, x7⟩)) g 0 ((onto dk d2).setIfInBounds D i) ∧ DecOut E S (cmpR rev S) snap n (some i) (D + 1) ((onto dk d2).setIfInBounds D i)) := by
            refine ⟨(hf3.trans (Fr.of_below ((Below.refl _ w3).alloc (Nat.le_refl _) o))).setCells _ _, ?_, dec_some HL.out hlt HD.out.1 HD.out.2 ?_ HM1.out HC2.out⟩
            · rw [← HX.out]; exact holds_set hH4 (by rw [size_onto]; omega)
            · unfold hidP; rw [HX.out]; exact ⟨h1, HH2.out⟩
          subst ho
          have HAP : Hid _ := hap
          clear hap
          obtain ⟨a0, a1, a2, a3, f0, f1, f2, f3⟩ := A3
          simp only at a0 a1 a2 a3
          clear hHo hoi AD hf3 hH4 f0 f1 f2 f3 hS2 hC2
          go_wp2_with (at_builtin; go_loud (refine wpList_append_run _ rfl (.tmp 51) (.tmp 55) 24 rfl _ _ _ _ rfl rfl HAP.out ?_))
          go_wp2_with fail
          go_ret
          exact ⟨some i, D + 1, _, rfl, HF.out⟩
        · have q2 : (x0 == 19) = false := by simpa using h2
          by_cases h3 : x0 = 21 ∨ x0 = 20
          · have HLV : Hid (liveB E snap i = true) := by show _ = _; unfold liveB; rw [HX.out]; simp; omega
            have HNH : Hid (¬ hidP E snap i) := by show ¬ _; unfold hidP; rw [HX.out]; simp; omega
            have hrun := HSk.out.alloc (.cells #[.int .u8 x0, .int .u64 x1, .slice x2 x3 x4, .slice x5 x6 x7] 33)
            have HKP := HD.out.1.keep hlt HLV.out
            rw [HL.out] at HKP
            have HKP' : Hid (DecRow E snap n (i + 1) (dk.setIfInBounds L i) ∧ (lvUp E snap (i + 1)).length = L + 1) := HKP
            obtain ⟨o, ho⟩ : ∃ o : Obj, o = .cells #[.int .u8 x0, .int .u64 x1, .slice x2 x3 x4, .slice x5 x6 x7] 33 := ⟨_, rfl⟩
            have hS2 := (HSk.out.alloc o).alloc o
            have hA2 := at4_of (hS2.holds H0.out.2.2.2.2.2 H0.out.2.1 (by simp [hdk])) (i := L) (by omega)
            have hset := SWK.setMany hS2 H0.out.2.2.2.2.2 (L * 4) (encE E i) (by rw [encE_len]; omega) (setMany_set E dk L i (by omega))
            have hap : ∀ ty, (Builtin.append_ #[24, 24] ty #[.slice (some ⟨g, 0, none⟩) L n, .slice (some ⟨wr.heap.size + 1, 0, none⟩) 1 1]).run Yba.prog ((wr.alloc o).alloc o) = .ok (.slice (some ⟨g, 0, none⟩) (L + 1) n) (((wr.alloc o).alloc o).setCells g (L * 4) (Key.cells ⟨x0, x1, x2, x3, x4, x5, x6, x7⟩)) := fun ty =>
              append_key ((wr.alloc o).alloc o) g L n (wr.heap.size + 1) ⟨x0, x1, x2, x3, x4, x5, x6, x7⟩ ty (by omega) (by rw [ho]; refine ⟨?_, ?_, ?_, ?_⟩ <;> simp) hA2
            have HSET : Hid (SWK (encE E) 4 W1 g 0 (dk.setIfInBounds L i) (((wr.alloc o).alloc o).setCells g (L * 4) (Key.cells ⟨x0, x1, x2, x3, x4, x5, x6, x7⟩))) := by
              simp only [encE, HX.out] at hset
              exact hset
            subst ho
            have HAP : Hid _ := hap
            clear hrun HKP hS2 hA2 hset h2 hap
            by_cases h4 : x0 = 21
            · have q3 : (x0 == 21) = true := by simp [h4]
              clear h3 h4
              go_wp2_with (at_builtin; go_loud (refine wpList_append_run _ rfl (.tmp 38) (.tmp 40) 24 rfl _ _ _ _ rfl rfl HAP.out ?_))
              go_wp2_with fail
              go_roundg (n - (i + 1))
              case measure => omega
              case rel => exact ⟨i + 1, _, by omega, by omega, by go_num, rfl, by rw [HKP'.out.2], HSET.out, HKP'.out.1, fun j hj => by
                by_cases p : j = i
                · subst p; exact HNH.out
                · exact HD.out.2 j (by omega)⟩
            · have q3 : (x0 == 21) = false := by simpa using h4
              have q4 : (x0 == 20) = true := by simp; omega
              clear h3 h4
              go_wp2_with (at_builtin; go_loud (refine wpList_append_run _ rfl (.tmp 38) (.tmp 40) 24 rfl _ _ _ _ rfl rfl HAP.out ?_))
              go_wp2_with fail
              go_roundg (n - (i + 1))
              case measure => omega
              case rel => exact ⟨i + 1, _, by omega, by omega, by go_num, rfl, by rw [HKP'.out.2], HSET.out, HKP'.out.1, fun j hj => by
                by_cases p : j = i
                · subst p; exact HNH.out
                · exact HD.out.2 j (by omega)⟩
          · have q3 : (x0 == 21) = false := by simp; omega
            have q4 : (x0 == 20) = false := by simp; omega
            have HLV : Hid (liveB E snap i = false) := by show _ = _; unfold liveB; rw [HX.out]; simp; omega
            have HNH : Hid (¬ hidP E snap i) := by show ¬ _; unfold hidP; rw [HX.out]; simp; omega
            clear h2 h3
            go_wp2_with fail
            go_roundg (n - (i + 1))
            case measure => omega
            case rel => exact ⟨i + 1, dk, by omega, by omega, by go_num, rfl, by rw [← HL.out, lvUp_succ, HLV.out]; simp, HSk.out.alloc _, HD.out.1.skip HLV.out, fun j hj => by
              by_cases p : j = i
              · subst p; exact HNH.out
              · exact HD.out.2 j (by omega)⟩
      · have HLV : Hid (liveB E snap i = false) := by show _ = _; unfold liveB; rw [HX.out]; simp; omega
        have HNH : Hid (¬ hidP E snap i) := by show ¬ _; unfold hidP; rw [HX.out]; simp; omega
        go_wp2_with fail
        go_roundg (n - (i + 1))
        case measure => omega
        case rel => exact ⟨i + 1, dk, by omega, by omega, by go_num, rfl, by rw [← HL.out, lvUp_succ, HLV.out]; simp, HSk.out.alloc _, HD.out.1.skip HLV.out, fun j hj => by
          by_cases p : j = i
          · subst p; exact HNH.out
          · exact HD.out.2 j (by omega)⟩
    · go_wp2_with fail
      have HSt : Hid (SWK (encE E) 4 W1 g 0 dk wr) := HSk.out
      obtain ⟨Wt, hWt⟩ : ∃ W, W = wr := ⟨_, rfl⟩
      subst hWt
      have hHt := HSt.out.holds H0.out.2.2.2.2.2 H0.out.2.1 (by simp [hdk])
      have hgt : g < Wt.heap.size := Nat.lt_of_lt_of_le H0.out.2.2.2.2.2 HSt.out.le
      have hft := Fr.of_swk HSt.out
      have hEt := H0.out.2.2.2.2.1.other (w' := Wt) (fun b o h1 h2 => hft.cell o h1 h2) hft.size
      have ht1 : Wt.cell? ⟨w.heap.size, 0, none⟩ = some (.iface 26 (ptrV bx)) := by rw [hft.cell 0 (by have := HBG.out.2.1; omega) (cell_lt' H0.out.2.2.1)]; exact H0.out.2.2.1
      have ht2 : Wt.cell? ⟨bx, 0, none⟩ = some (.bool rev) := by rw [hft.cell 0 HBG.out.1 (cell_lt' H0.out.2.2.2.1)]; exact H0.out.2.2.2.1
      have T := sortStable_any E (cmpR rev S) (cmpR_ord rev S) g L n w.heap.size Wt (headOf dk L) (holds_head hHt (by omega)) hgt (cmpLays_of ht1 (by have := HBG.out.2.1; omega) ht2 HBG.out.1 hEt) (size_headOf dk L) (by omega) (fun p q pq hq => by
        rw [get_headOf dk (by omega), get_headOf dk hq, HD.out.1.lo p (by rw [HL.out]; omega), HD.out.1.lo q (by rw [HL.out]; omega)]
        exact lvUp_lt E snap i p q pq (by rw [HL.out]; exact hq))
      have HEQ : Hid (EqLays E S g w.heap.size (headOf dk L).size Wt) := eqLays_of ht1 (by have := HBG.out.2.1; omega) ht2 HBG.out.1 hEt
      have HHt : Hid (HoldsK (encE E) 4 Wt g 0 dk) := hHt
      have HFt : Hid (Fr g w Wt) := H0.out.1.trans hft
      clear hHt hft hEt ht1 ht2
      refine T.mono ?_
      rintro e w2 ⟨rfl, d1, hS1, hM1⟩
      clear T
      have hd1 : d1.size = L := by rw [hM1.out.1, size_headOf]
      have T2 := compact_any E S g L n w.heap.size n Wt (headOf dk L) d1 w2 (holds_head HHt.out (by omega)) hgt HEQ.out HZ.out (by rw [hd1, size_headOf]) hd1 (by omega) (by omega) hS1
      have HM1 : Hid (Mg (cmpR rev S) (headOf dk L) d1 0 L) := hM1
      clear hS1 hM1 HEQ
      go_wp2_with fail
      refine T2.mono ?_
      rintro e w3 ⟨D, d2, rfl, hS2, hC2⟩
      clear T2
      have hDL : D ≤ L := by rw [hC2.len]; exact comp_len _ _ _
      have hd2 : d2.size = L := hC2.size
      have HF : Hid (Fr g w w3 ∧ HoldsK (encE E) 4 w3 g 0 (onto dk d2) ∧ DecOut E S (cmpR rev S) snap n none D (onto dk d2)) := by
        obtain rfl : i = n := by omega
        exact ⟨HFt.out.trans (Fr.of_swk hS2), holds_onto HHt.out hgt (by omega) hS2, dec_none HL.out HD.out.1 HD.out.2 HM1.out hC2⟩
      clear hS2 hC2
      go_wp2_with fail
      go_ret
      exact ⟨none, D, _, rfl, HF.out⟩
end Go.Proofs.Ybulkdkos
