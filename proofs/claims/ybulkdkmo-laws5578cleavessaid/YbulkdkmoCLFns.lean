/-
  LawS5578CLeaves: the contracts of (*node).top, .len, .asChild at a leaf, of leavesOf.
-/
import Derived.Test.YbulkdkmoCWholeInner
import Derived.Test.YbulkdkmoALeaf
import Derived.Lib.SliceRun
import Derived.Laws.AppendOwn
namespace Go.Proofs.Ybulkdkmo
open Go.ChangeShapes Go.WideShapes Go.ChangeAt Go.RowKit
set_option linter.unusedVariables false
set_option maxRecDepth 100000 in
theorem top_at (g b ob n cap : Nat) (x : Int) (w : World) (hn : 0 < n) (hm : n ≤ 1048576)
    (h0 : w.cell? ⟨g, 0, none⟩ = some (.slice (some ⟨b, ob, none⟩) n cap)) (h1 : w.cell? ⟨g, 1, none⟩ = some (.pointer none))
    (hx : w.cell? ⟨b, ob + (n - 1) * 2 + 1, none⟩ = some (.int .u64 x)) :
    Calls Yba.prog 12 #[ptrV g] w fun e w' => e = .returned (.int .u64 x) ∧ ∃ m, w' = w.drewN m := by
  go_enter Yba.func12, Yba.ntmps12
  go_wp2
  go_region
  go_wp2
  go_ret
  exact ⟨rfl, 1, rfl⟩
set_option maxRecDepth 100000 in
theorem len_at (g b ob n cap : Nat) (w : World)
    (h0 : w.cell? ⟨g, 0, none⟩ = some (.slice (some ⟨b, ob, none⟩) n cap)) (h1 : w.cell? ⟨g, 1, none⟩ = some (.pointer none)) :
    Calls Yba.prog 20 #[ptrV g] w fun e w' => e = .returned (.int .i64 n) ∧ w' = w := by
  go_enter Yba.func20, Yba.ntmps20
  go_wp2
  go_ret
  exact ⟨rfl, rfl⟩
set_option maxRecDepth 100000 in
theorem asChild_at (g b ob n cap : Nat) (x : Int) (w : World) (hn : 0 < n) (hm : n ≤ 1048576)
    (h0 : w.cell? ⟨g, 0, none⟩ = some (.slice (some ⟨b, ob, none⟩) n cap)) (h1 : w.cell? ⟨g, 1, none⟩ = some (.pointer none))
    (hx : w.cell? ⟨b, ob + (n - 1) * 2 + 1, none⟩ = some (.int .u64 x)) :
    Calls Yba.prog 17 #[ptrV g] w fun e w' => e = .returned (.agg #[.int .u64 x, .int .i64 n, ptrV g]) ∧ Below w.heap.size w w' := by
  have hb1 : Below w.heap.size w (w.alloc (.cells #[.int .u64 0, .int .i64 0, .pointer none] 56)) := (Below.refl _ _).alloc (Nat.le_refl _) _
  have lg := cell_lt h0
  have lb := cell_lt hx
  have hnew := Blk.new w #[.int .u64 0, .int .i64 0, .pointer none] 56
  have H : Hid (Below w.heap.size w (w.alloc (.cells #[.int .u64 0, .int .i64 0, .pointer none] 56)) ∧ Blk (w.alloc (.cells #[.int .u64 0, .int .i64 0, .pointer none] 56)) w.heap.size #[.int .u64 0, .int .i64 0, .pointer none] 56) := ⟨hb1, hnew⟩
  have c0 := (hb1.cell (p := ⟨g, 0, none⟩) lg).trans h0
  have c1 := (hb1.cell (p := ⟨g, 1, none⟩) lg).trans h1
  have c2 := (hb1.cell (p := ⟨b, ob + (n - 1) * 2 + 1, none⟩) lb).trans hx
  have T := top_at g b ob n cap x _ hn hm c0 c1 c2
  have k0 : Hid (w.cell? ⟨g, 0, none⟩ = some (.slice (some ⟨b, ob, none⟩) n cap)) := h0
  have k1 : Hid (w.cell? ⟨g, 1, none⟩ = some (.pointer none)) := h1
  clear hb1 hnew h0 h1 hx c0 c1 c2
  go_enter Yba.func17, Yba.ntmps17
  go_wp2_with fail
  refine T.mono ?_
  rintro e w' ⟨rfl, m, rfl⟩
  obtain ⟨hb1, hnew⟩ := H.out
  replace hb1 := belowN hb1 m
  replace hnew := hnew.drewN m
  generalize (w.alloc (.cells #[.int .u64 0, .int .i64 0, .pointer none] 56)).drewN m = w2 at *
  have d0 := (hb1.cell (p := ⟨g, 0, none⟩) lg).trans k0.out
  have d1 := (hb1.cell (p := ⟨g, 1, none⟩) lg).trans k1.out
  have T2 := len_at g b ob n cap w2 d0 d1
  clear d0 d1
  go_wp2_with fail
  refine T2.mono ?_
  rintro e w3 ⟨rfl, hw3⟩
  subst hw3
  clear T2 T
  have f0 := hnew.frozen 0
  have f1 := hnew.frozen 1
  have f2 := hnew.frozen 2
  have e0 := hnew.cell (i := 0) (v := .int .u64 0) rfl
  have e1 := hnew.cell (i := 1) (v := .int .i64 0) rfl
  have e2 := hnew.cell (i := 2) (v := .pointer none) rfl
  have H2 : Hid (Below w.heap.size w w3 ∧ Blk w3 w.heap.size #[.int .u64 0, .int .i64 0, .pointer none] 56) := ⟨hb1, hnew⟩
  clear hb1 hnew
  go_wp2_with fail
  obtain ⟨hb1, hnew⟩ := H2.out
  have hs := ((hnew.set 0 (.int .u64 x)).set 1 (.int .i64 n)).set 2 (ptrV g)
  try simp only [Exit.inBlock, Exit.then]
  refine bodyPost_ret (results_cell_row rfl _ _ w.heap.size 56 #[.int .u64 x, .int .i64 n, ptrV g] (0, 0) _ rfl (by simpa [Blk] using hs) Yba.underlying56 rfl (by kernel_rfl)) rfl ?_
  exact ⟨rfl, ((hb1.setCell (Nat.le_refl _) _).setCell (Nat.le_refl _) _).setCell (Nat.le_refl _) _⟩
/-- How many slots stand in leaf j. -/
def leafN (m j : Nat) : Nat := min (64 * j + 64) m - 64 * j
def leafCells (b m j : Nat) : Array Value := #[.slice (some ⟨b, 64 * j * 2, none⟩) (leafN m j) (leafN m j), .pointer none]
/-- The leaves made so far. -/
structure Lvs (B : Nat) (w0 w : World) (b m k : Nat) (v : Value) (ps : List Nat) : Prop where
  bel : Below B w0 w
  len : ps.length = k
  own : w.ownsRow B 24 1 v k (ps.map ptrV)
  blk : ∀ j p, ps[j]? = some p → Blk w p (leafCells b m j) 54
theorem Lvs.push {B : Nat} {w0 w w1 : World} {b m k : Nat} {v v' : Value} {ps : List Nat} (h : Lvs B w0 w b m k v ps) (hB : B ≤ w.heap.size) (o : Obj)
    (hg : ((w.alloc (.cells (leafCells b m k) 54)).alloc o).grownBy w1 v.ownBlock) (ho : w1.ownsRow B 24 1 v' (k + 1) (ps.map ptrV ++ [ptrV w.heap.size])) : Lvs B w0 w1 b m (k + 1) v' (ps ++ [w.heap.size]) := by
  have hb := (h.bel.alloc hB (.cells (leafCells b m k) 54)).alloc (by simp; omega) o
  have hrow : ∀ q, v.ownBlock = some q → B ≤ q := fun q hq => (h.own.lt q hq).1
  have ho2 := (h.own.alloc (.cells (leafCells b m k) 54)).alloc o
  refine ⟨hb.grown hg (by simp; omega) hrow, by simp [h.len], by simpa using ho, fun j p hj => ?_⟩
  have hbk : Blk ((w.alloc (.cells (leafCells b m k) 54)).alloc o) p (leafCells b m j) 54 := by
    by_cases e : j < ps.length
    · rw [List.getElem?_append_left e] at hj
      exact ((h.blk j p hj).alloc _).alloc _
    · rw [List.getElem?_append_right (by omega)] at hj
      have hjl : j = ps.length := by
        by_cases e2 : j - ps.length = 0
        · omega
        · rw [List.getElem?_eq_none (by simp; omega)] at hj
          simp at hj
      subst hjl
      simp at hj
      subst hj
      rw [h.len]
      exact (Blk.new w _ _).alloc _
  exact hbk.grown hg (owns_ne ho2 hbk (by decide))
set_option maxRecDepth 100000 in
set_option maxHeartbeats 1000000 in
theorem leavesOf_all (b m : Nat) (w : World) (h0 : 0 < m) (hm : m ≤ 1048576) :
    Calls Yba.prog 16 #[.slice none 0 0, .slice (some ⟨b, 0, none⟩) m m] w fun e w' => ∃ v ps, e = .returned v ∧ Lvs w.heap.size w w' b m ((m + 63) / 64) v ps := by
  obtain ⟨i0, hi0, hz0, hz1, hz2⟩ := info_parts Yba.info24
  go_enter Yba.func16, Yba.ntmps16
  go_wp2_with fail
  go_loopg [0, 5] (m + 63) (fun g v i wr => ∃ k : Nat, g = m + 63 - 64 * k ∧ 64 * k ≤ m + 63 ∧ i = .int .i64 (64 * k : Nat) ∧ ∃ ps, Lvs w.heap.size w wr b m k v ps)
  case atStart => exact ⟨0, rfl, by omega, rfl, [], Below.refl _ _, rfl, ⟨rfl, Or.inl ⟨rfl, rfl⟩⟩, fun j p hj => by simp at hj⟩
  case round =>
    obtain ⟨k, hgk, hk, rfl, ps, hl⟩ := hrel
    have HG : Hid (gk = m + 63 - 64 * k) := hgk
    clear hgk
    obtain ⟨ao, cc, rfl⟩ := owns_shape hl.own
    have hB : w.heap.size ≤ wr.heap.size := hl.bel.size
    have HO := fun o1 o2 => (hl.own.alloc o1).alloc o2
    have hlen := hl.len
    have HL : Hid (Lvs w.heap.size w wr b m k (.slice ao k cc) ps) := hl
    clear hl
    by_cases hlt : 64 * k < m
    · by_cases hfull : 64 * k + 64 ≤ m
      · have hcells : leafCells b m k = #[.slice (some ⟨b, 64 * k * 2, none⟩) 64 64, .pointer none] := by unfold leafCells leafN; rw [show min (64 * k + 64) m - 64 * k = 64 by omega]
        go_wp2_with (at_builtin; go_loud (refine wpList_append_own _ rfl (.tmp 18) (.tmp 26) 23 rfl w.heap.size 24 i0 (.pointer none) 1 8 Yba.underlying23 hi0 hz0 hz1 hz2 rfl (by decide) _ k (ps.map ptrV) rfl (HO _ _) _ 1 1 [ptrV wr.heap.size] rfl rfl ?c1 ?c2 ?c3 ?c4 ?c5 ?_))
        case c1 => refine news_one ?_; simp [go_sem]
        case c2 => simp [Value.oneCell']
        case c3 => unfold maxLen; omega
        case c4 => omega
        case c5 => simp; omega
        intro v' w1 hown1 hg1 _
        obtain ⟨ao', cc', rfl⟩ := owns_shape hown1
        have hst := HL.out.push hB _ (by rw [hcells]; exact hg1) hown1
        have HS : Hid (Lvs w.heap.size w w1 b m (k + 1) (.slice ao' (k + 1) cc') (ps ++ [wr.heap.size])) := hst
        clear hst hown1 hg1 HO
        go_wp2_with fail
        go_roundg (m + 63 - 64 * (k + 1))
        case measure => have := HG.out; omega
        case rel => exact ⟨k + 1, rfl, by omega, by congr 1, _, HS.out⟩

      · have hcells : leafCells b m k = #[.slice (some ⟨b, 64 * k * 2, none⟩) (m - 64 * k) (m - 64 * k), .pointer none] := by unfold leafCells leafN; rw [show min (64 * k + 64) m - 64 * k = m - 64 * k by omega]
        go_wp2_with (at_builtin; go_loud (refine wpList_append_own _ rfl (.tmp 18) (.tmp 26) 23 rfl w.heap.size 24 i0 (.pointer none) 1 8 Yba.underlying23 hi0 hz0 hz1 hz2 rfl (by decide) _ k (ps.map ptrV) rfl (HO _ _) _ 1 1 [ptrV wr.heap.size] rfl rfl ?c1 ?c2 ?c3 ?c4 ?c5 ?_))
        case c1 => refine news_one ?_; simp [go_sem]
        case c2 => simp [Value.oneCell']
        case c3 => unfold maxLen; omega
        case c4 => omega
        case c5 => simp; omega
        intro v' w1 hown1 hg1 _
        obtain ⟨ao', cc', rfl⟩ := owns_shape hown1
        have hst := HL.out.push hB _ (by rw [hcells]; exact hg1) hown1
        have HS : Hid (Lvs w.heap.size w w1 b m (k + 1) (.slice ao' (k + 1) cc') (ps ++ [wr.heap.size])) := hst
        clear hst hown1 hg1 HO
        go_wp2_with fail
        go_roundg (m + 63 - 64 * (k + 1))
        case measure => have := HG.out; omega
        case rel => exact ⟨k + 1, rfl, by omega, by congr 1, _, HS.out⟩

    · clear HO
      go_wp2_with fail
      go_ret
      obtain rfl : k = (m + 63) / 64 := by omega
      exact ⟨_, _, rfl, HL.out⟩
end Go.Proofs.Ybulkdkmo
