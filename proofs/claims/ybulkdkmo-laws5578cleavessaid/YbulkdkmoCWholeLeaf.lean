/-
  LawS5578CWhole: the contract of (*node).top; the walk of the law where the node is a leaf.
-/
import Derived.Test.YbulkdkmoProg
import Derived.Test.YbulkdkmoKit
import Derived.WalkKit
import Derived.ProofKit
import Derived.Below
import Derived.Outline
import Derived.Deep.QuietTactic
import Derived.BigQuiet
import Derived.RegionTactic
import Derived.ChangeAlike
import Derived.Deep.Draws
import Derived.WalkSpells
import Derived.Deep.LoopGhost
namespace Go.Proofs.Ybulkdkmo
open Go.ChangeShapes Go.WideShapes Go.ChangeAt Go.RowKit
theorem Yba.info50 : (Yba.prog.info? 50).map (fun i => (i.zero, i.size, i.bytes)) = some (some (.agg #[.int .i64 0, .int .u64 0]), 2, 16) := by kernel_rfl
theorem Yba.info56 : (Yba.prog.info? 56).map (fun i => (i.zero, i.size, i.bytes)) = some (some (.agg #[.int .u64 0, .int .i64 0, .pointer none]), 3, 24) := by kernel_rfl
theorem top_leaf (g b n cap : Nat) (x : Int) (w : World) (hn : 0 < n) (hm : n ≤ 1048576)
    (h0 : w.cell? ⟨g, 0, none⟩ = some (.slice (some ⟨b, 0, none⟩) n cap)) (h1 : w.cell? ⟨g, 1, none⟩ = some (.pointer none))
    (hx : w.cell? ⟨b, (n - 1) * 2 + 1, none⟩ = some (.int .u64 x)) :
    Calls Yba.prog 12 #[.pointer (some ⟨g, 0, none⟩)] w fun e w' => e = .returned (.int .u64 x) ∧ ∃ m, w' = w.drewN m := by
  go_enter Yba.func12, Yba.ntmps12
  go_wp2
  go_region
  go_wp2
  go_ret
  exact ⟨rfl, 1, rfl⟩
theorem make_slots (n : Nat) (hn : n ≤ 1048576) (w : World) : (Instr.makeSlice 51 (.int .i64 (n : Int)) (.int .i64 (n : Int))).run Yba.prog w = .ok (.slice (some ⟨w.heap.size, 0, none⟩) n n) (w.alloc (.cells (madeCells #[.int .i64 0, .int .u64 0] (n * 2)) 50)) := by
  obtain ⟨i, hi, hz0, hz1, hz2⟩ := info_parts Yba.info50
  have := run_make (P := Yba.prog) w 51 50 i _ Yba.underlying51 hi hz0 .i64 .i64 n n (by omega) (by omega) (by rw [hz2]; omega) (by omega)
  rw [hz1] at this
  simpa [Value.cells] using this
def wantV (zs : List Int) : Nat → Int | 0 => 0 | k + 1 => zs.getD k 0
def Filled (zs : List Int) (c : Array Value) (k : Nat) : Prop := ∀ j, j < k → c[j * 2]? = some (.int .i64 j) ∧ c[j * 2 + 1]? = some (.int .u64 (zs.getD j 0))
theorem Filled.step {zs : List Int} {c : Array Value} {k n : Nat} (h : Filled zs c k) (hc : c.size = n * 2) (hk : k < n) : Filled zs ((c.setIfInBounds (k * 2) (.int .i64 k)).setIfInBounds (k * 2 + 1) (.int .u64 (zs[k]?.getD 0))) (k + 1) := by
  intro j hj
  by_cases e : j = k
  · subst e
    constructor
    · rw [Array.getElem?_setIfInBounds, if_neg (by omega), Array.getElem?_setIfInBounds, if_pos rfl, if_pos (by omega)]
    · rw [Array.getElem?_setIfInBounds, if_pos rfl, if_pos (by simp; omega)]; simp
  · obtain ⟨h1, h2⟩ := h j (by omega)
    constructor
    · rw [Array.getElem?_setIfInBounds, if_neg (by omega), Array.getElem?_setIfInBounds, if_neg (by omega)]; exact h1
    · rw [Array.getElem?_setIfInBounds, if_neg (by omega), Array.getElem?_setIfInBounds, if_neg (by omega)]; exact h2
set_option maxRecDepth 100000 in
theorem leaf_walk (b off len cap : Nat) (zs : List Int) (a1 : Option Addr) (len1 cap1 : Nat) (a2 : Bool) (w : World) (hcond : a2 = false ∨ (a2 = true ∧ len1 = 0))
   (hl : 0 < len) (h1 : len + len1 ≤ 1048576) (hz : zs.length = cap) (hlc : len ≤ cap) (hbl : b < w.heap.size) (hcell : ∀ i, i < zs.length → w.cell? ⟨b, off + i, none⟩ = some (.int .u64 (zs.getD i 0))) :
    Calls Yba.prog 5 #[.slice (some ⟨b, off, none⟩) len cap, .slice a1 len1 cap1, .bool a2] w fun e w' => e = .returned (.bool true) ∧ Below w.heap.size w w' := by
  have hmk := make_slots len (by omega)
  have HC : Hid (∀ i, i < zs.length → w.cell? ⟨b, off + i, none⟩ = some (.int .u64 (zs.getD i 0))) := hcell
  clear hcell
  have hgt : decide (1048576 < (len : Int) + (len1 : Int)) = false := by simp; omega
  rcases hcond with rfl | ⟨rfl, rfl⟩
  all_goals
    go_enter Yba.func5, Yba.ntmps5
    go_wp2_with fail
    go_loopg [8, 14] len (fun g want i wr => ∃ k : Nat, g = len - k ∧ k ≤ len ∧ i = .int .i64 k ∧ want = .int .u64 (wantV zs k) ∧ Below w.heap.size w wr ∧ ∃ c, Blk wr w.heap.size c 50 ∧ c.size = len * 2 ∧ Filled zs c k)
    case atStart => exact ⟨0, rfl, Nat.zero_le _, rfl, rfl, (Below.refl _ _).alloc (Nat.le_refl _) _, _, Blk.new _ _ _, size_madeCells _ _, fun j hj => absurd hj (by omega)⟩
    case round =>
      obtain ⟨k, hgk, hk, rfl, rfl, hbel, c, hblk, hcs, hfill⟩ := hrel
      have HG : Hid (gk = len - k) := hgk
      clear hgk
      by_cases hlt : k < len
      · have hcx : wr.cell? ⟨b, off + k, none⟩ = some (.int .u64 (zs.getD k 0)) := (hbel.cell (by exact hbl)).trans (HC.out k (by omega))
        obtain ⟨v0, hv0⟩ : ∃ v, c[k * 2]? = some v := ⟨_, Array.getElem?_eq_getElem (by omega)⟩
        obtain ⟨v1, hv1⟩ : ∃ v, c[k * 2 + 1]? = some v := ⟨_, Array.getElem?_eq_getElem (by omega)⟩
        have hc0 := hblk.cell hv0
        have hc1 := hblk.cell hv1
        have hf0 := hblk.frozen (k * 2)
        have hf1 := hblk.frozen (k * 2 + 1)
        have HB : Hid (Blk wr w.heap.size c 50 ∧ c.size = len * 2 ∧ Filled zs c k ∧ Below w.heap.size w wr) := ⟨hblk, hcs, hfill, hbel⟩
        clear hblk hcs hfill hbel hv0 hv1
        go_wp2_with fail
        obtain ⟨hblk, hcs, hfill, hbel⟩ := HB.out
        go_roundg (len - (k + 1))
        case measure => have := HG.out; omega
        case rel => exact ⟨k + 1, rfl, by omega, by go_num, by simp [wantV], (hbel.setCell (Nat.le_refl _) _).setCell (Nat.le_refl _) _, _, (hblk.set _ _).set _ _, by simpa using hcs, hfill.step hcs hlt⟩
      · obtain rfl : len = k := by omega
        have hcw : c[(len - 1) * 2 + 1]? = some (.int .u64 (wantV zs len)) := by
          obtain ⟨m, rfl⟩ : ∃ m, len = m + 1 := ⟨len - 1, by omega⟩
          exact (hfill m (by omega)).2
        have hbw : b < wr.heap.size := Nat.lt_of_lt_of_le hbl hbel.size
        have hc2 := fun o => (hblk.alloc o).cell hcw
        have HB : Hid (Blk wr w.heap.size c 50 ∧ c.size = len * 2 ∧ Filled zs c len ∧ Below w.heap.size w wr) := ⟨hblk, hcs, hfill, hbel⟩
        clear hblk hcs hfill hbel hcw hk
        go_wp2_with fail
        refine (top_leaf wr.heap.size w.heap.size len len (wantV zs len) _ hl (by omega) (by simp) (by simp) (hc2 _)).mono ?_
        rintro e w' ⟨rfl, mm, rfl⟩
        clear hc2
        go_wp2_with fail
        obtain ⟨hblk, hcs, hfill, hbel⟩ := HB.out
        have f1 := belowN (hbel.alloc hbel.size (.cells #[.slice (some ⟨w.heap.size, 0, none⟩) len len, .pointer none] 54)) mm
        have f2 := (hblk.alloc (.cells #[.slice (some ⟨w.heap.size, 0, none⟩) len len, .pointer none] 54)).drewN mm
        have f3 := (Blk.new wr #[.slice (some ⟨w.heap.size, 0, none⟩) len len, .pointer none] 54).drewN mm
        clear HB hblk hbel
        generalize (wr.alloc (.cells #[.slice (some ⟨w.heap.size, 0, none⟩) len len, .pointer none] 54)).drewN mm = w2 at *
        generalize wr.heap.size = nb at *
        go_loopg [19] len (fun g i wx => ∃ k : Nat, g = len - k ∧ k ≤ len ∧ i = .int .i64 k ∧ Below w.heap.size w wx ∧ Blk wx w.heap.size c 50 ∧ Blk wx nb #[.slice (some ⟨w.heap.size, 0, none⟩) len len, .pointer none] 54)
        case atStart => exact ⟨0, rfl, Nat.zero_le _, rfl, f1, f2, f3⟩
        case round =>
          obtain ⟨k, hgk, hk, rfl, hbel', hbk, hbn⟩ := hrel
          have HG : Hid (gk = len - k) := hgk
          clear hgk
          have hn0 := hbn.cell (i := 0) (by rfl)
          by_cases hlt : k < len
          · have hcx : wr.cell? ⟨b, off + k, none⟩ = some (.int .u64 (zs.getD k 0)) := (hbel'.cell (by exact hbl)).trans (HC.out k (by omega))
            have hc0 := hbk.cell (hfill k hlt).1
            have hc1 := hbk.cell (hfill k hlt).2
            have HB2 : Hid (Blk wr w.heap.size c 50 ∧ Blk wr nb #[.slice (some ⟨w.heap.size, 0, none⟩) len len, .pointer none] 54 ∧ Below w.heap.size w wr) := ⟨hbk, hbn, hbel'⟩
            clear hbk hbn hbel' hcs hfill f1 f2 f3
            go_wp2_with fail
            go_quiet (fail)
            go_wp2_with fail
            obtain ⟨hbk, hbn, hbel'⟩ := HB2.out
            go_roundg (len - (k + 1))
            case measure => have := HG.out; omega
            case rel => exact ⟨k + 1, rfl, by omega, by go_num, belowN hbel' _, hbk.drewN _, hbn.drewN _⟩
          · go_wp2_with fail
            go_ret
            exact ⟨rfl, hbel'⟩
end Go.Proofs.Ybulkdkmo
