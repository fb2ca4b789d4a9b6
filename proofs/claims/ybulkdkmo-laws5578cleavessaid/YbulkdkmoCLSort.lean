/-
  LawS5578CLeaves: the row of the call's own behind slices.Clone, slices.Sort, slices.Compact.
-/
import Derived.Test.YbulkdkmoCLFns
import Derived.Test.YbulkdkmoShelf
import Derived.Test.YbulkdkmoCLPure
import Derived.Test.YbulkdkmoSortH
import Derived.Sort.OwnSortedInts
namespace Go.Proofs.Ybulkdkmo
open Go.ChangeShapes Go.WideShapes Go.ChangeAt Go.RowKit Go.Sort
set_option linter.unusedVariables false
theorem Yba.info31 : (Yba.prog.info? 31).map (fun i => (i.zero, i.size, i.bytes)) = some (some (.int .u64 0), 1, 8) := by kernel_rfl
/-- slices.Clone of a slice that is not empty: a slice of the call's own, the same numbers. -/
theorem clone_row (b o n c : Nat) (Z : Nat → Int) (w : World) (hn : 0 < n) (hm : n ≤ 1048576) (hc : ∀ j, j < n → w.cell? ⟨b, o + j, none⟩ = some (.int .u64 (Z j))) :
    Calls Yba.prog 13 #[.slice (some ⟨b, o, none⟩) n c] w fun e w' => ∃ g cap cur, e = .returned (.slice (some ⟨g, 0, none⟩) n cap) ∧ w.heap.size ≤ g ∧ Blk w' g cur 31 ∧ n ≤ cap ∧ cap ≤ maxLen ∧ cur.size = cap ∧ cur.toList.take n = ((List.range n).map Z).map (Value.int .u64) ∧ Below w.heap.size w w' := by
  obtain ⟨i, hi, hz0, hz1, hz2⟩ := info_parts Yba.info31
  refine (AnyE.slices_Clone Yba.cloneL i (.int .u64 0) 1 8 hi hz0 hz1 hz2 rfl (by omega) Yba.sizeOf31 b o n c (((List.range n).map Z).map (Value.int .u64)) w (by simp) (by simp only [maxLen]; omega) (by omega) ?_ ?_).mono ?_
  · intro j u hj
    rw [List.getElem?_map, List.getElem?_map] at hj
    by_cases h : j < n
    · rw [List.getElem?_range h] at hj
      simp at hj
      rw [← hj]
      exact hc j h
    · rw [List.getElem?_eq_none (by simpa using h)] at hj
      simp at hj
  · intro u hu
    obtain ⟨x, _, rfl⟩ := List.mem_map.1 hu
    rfl
  · rintro e w' ⟨v, rfl, ⟨hl, hown⟩, hnil, hb⟩
    rcases hown with ⟨h, _⟩ | ⟨g, cap, cur, rfl, hg, hblk, h1, h2, h3, h4⟩
    · exact absurd h hnil
    · exact ⟨g, cap, cur, rfl, hg, hblk, h1, h2, by omega, by rw [Nat.mul_one] at h4; exact h4, hb⟩
theorem holds_of_blockU {w : World} {g : Nat} {cur : Array Value} {e : TypeId} {ss : List Int} (hb : w.heap[g]? = some (.cells cur e (0, 0))) (ht : cur.toList.take ss.length = ss.map (Value.int .u64)) : Holds (Value.int .u64) w g 0 ss.toArray := by
  intro j hj
  have hj' : j < ss.length := by simpa using hj
  refine ⟨?_, by simp [World.frozen?, hb]⟩
  have h1 : (cur.toList.take ss.length)[j]? = (ss.map (Value.int .u64))[j]? := by rw [ht]
  rw [List.getElem?_take_of_lt hj'] at h1
  simp only [World.cell?, hb, Nat.zero_add]
  simp only [Option.isSome_none, Bool.false_eq_true, if_false]
  rw [← Array.getElem?_toList, h1]
  simp [hj']
theorem heap_sortedU {w : World} {g n : Nat} {os : Array Obj} {cur : Array Value} {e : TypeId} {fr : Nat × Nat} (d : Array Int) (hb : w.heap[g]? = some (.cells cur e fr)) :
    (grow (putRow (Value.int .u64) (Sort.ahead w n) g 0 d) os).heap[g]? = some (.cells (putCells (Value.int .u64) 0 d cur) e fr) := by
  have hg : g < w.heap.size := (Array.getElem?_eq_some_iff.1 hb).1
  rw [heap_grow_old _ _ (by simpa using hg)]
  simp [putRow, mapBlock, Sort.ahead, Array.getElem?_modify, hb, onCells]
theorem below_sortedU {w : World} {g n : Nat} {os : Array Obj} (d : Array Int) (hg : g < w.heap.size) : Below g w (grow (putRow (Value.int .u64) (Sort.ahead w n) g 0 d) os) := by
  refine ⟨rfl, rfl, rfl, by simp, fun k hk => ?_⟩
  rw [heap_grow_old _ _ (by simp; omega)]
  have : g ≠ k := by omega
  simp [putRow, mapBlock, Sort.ahead, Array.getElem?_modify, this]
theorem get_putCellsU (cur : Array Value) (ts : List Int) (h : ts.length ≤ cur.size) (j : Nat) (hj : j < ts.length) : (putCells (Value.int .u64) 0 ts.toArray cur)[j]? = some (.int .u64 (ts.getD j 0)) := by
  simp [putCells, hj, show j < cur.size by omega, List.getD]
theorem take_putCellsU (cur : Array Value) (ts : List Int) (h : ts.length ≤ cur.size) : (putCells (Value.int .u64) 0 ts.toArray cur).toList.take ts.length = ts.map (Value.int .u64) := by
  apply List.ext_getElem?
  intro j
  by_cases hj : j < ts.length
  · rw [List.getElem?_take_of_lt hj, Array.getElem?_toList]
    simp [putCells, hj, show j < cur.size by omega]
  · rw [List.getElem?_take_eq_none (by omega), List.getElem?_eq_none (by simp; omega)]
/-- slices.Sort on the row of the call's own. -/
theorem sort_row (g n cap : Nat) (Z : Nat → Int) (cur : Array Value) (w : World) (hb : Blk w g cur 31) (hn : n ≤ cap) (hc : cur.size = cap) (hm : n ≤ 1048576) (ht : cur.toList.take n = ((List.range n).map Z).map (Value.int .u64)) :
    Calls Yba.prog 14 #[.slice (some ⟨g, 0, none⟩) n cap] w fun e w' => e = .returned (.tuple #[]) ∧ Below g w w' ∧ ∃ cur', Blk w' g cur' 31 ∧ cur'.size = cap ∧ cur'.toList.take n = (sorted Z n).map (Value.int .u64) := by
  have hl : ((List.range n).map Z).length = n := by simp
  have hH : Holds (Value.int .u64) w g 0 ((List.range n).map Z).toArray := holds_of_blockU hb (by rw [hl]; exact ht)
  have h := U.slices_Sort g 0 cap ((List.range n).map Z) w hH hb.lt (by rw [hl]; omega)
  rw [hl] at h
  refine h.mono ?_
  rintro e w' ⟨rfl, q, os, rfl⟩
  refine ⟨rfl, below_sortedU _ hb.lt, _, heap_sortedU (n := q) (os := os) _ hb, by simp [putCells, hc], ?_⟩
  have := take_putCellsU cur (sorted Z n) (by rw [sorted_len]; omega)
  rw [sorted_len] at this
  exact this
theorem compact_row (g n cap : Nat) (Z : Nat → Int) (cur : Array Value) (w : World) (hb : Blk w g cur 31) (hn : n ≤ cap) (hc : cur.size = cap) (hm : n ≤ 1048576) (ht : cur.toList.take n = (sorted Z n).map (Value.int .u64)) :
    Calls Yba.prog 15 #[.slice (some ⟨g, 0, none⟩) n cap] w fun e w' => e = .returned (.slice (some ⟨g, 0, none⟩) (left Z n).length cap) ∧ Below g w w' ∧ ∃ cur', Blk w' g cur' 31 ∧ ∀ j, j < (left Z n).length → cur'[j]? = some (.int .u64 ((left Z n).getD j 0)) := by
  have hl := sorted_len Z n
  have hH : Holds (Value.int .u64) w g 0 (sorted Z n).toArray := holds_of_blockU hb (by rw [hl]; exact ht)
  have h := AnyE.slices_Compact Yba.compactL (Value.int .u64) (fun _ => rfl) (EqlAt.intD _ _ _) (NeqAt.intD _ _ _) 0 Yba.zeroValue31 g 0 cap (sorted Z n).toArray w hH (by simp [hl]; omega) (by simp [hl]; omega)
  have hsz : (sorted Z n).toArray.size = (sorted Z n).length := by simp
  rw [hsz, hl] at h
  change Calls Yba.prog 15 _ _ _ at h
  refine h.mono ?_
  have hL : Lib.compactUpTo (sorted Z n).toArray n = left Z n := by unfold left; rw [hl]
  rw [hL]
  have hle : (left Z n).length ≤ n := by
    have := compact_len (sorted Z n).toArray n
    rw [hL] at this
    exact this
  rintro e w' ⟨rfl, q, rfl⟩
  have hb1 := heap_sortedU (n := q) (os := #[]) (left Z n ++ List.replicate (n - (left Z n).length) 0).toArray hb
  have hb2 := below_sortedU (w := w) (n := q) (os := #[]) (left Z n ++ List.replicate (n - (left Z n).length) 0).toArray hb.lt
  rw [grow_empty] at hb1 hb2
  refine ⟨rfl, hb2, _, hb1, fun j hj => ?_⟩
  rw [get_putCellsU cur _ (by simp; omega) j (by simp; omega)]
  simp [List.getD, List.getElem?_append_left hj]
end Go.Proofs.Ybulkdkmo
