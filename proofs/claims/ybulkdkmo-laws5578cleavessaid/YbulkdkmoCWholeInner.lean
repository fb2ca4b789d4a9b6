/-
  LawS5578CWhole: the walk of the law where the node lies above the leaves.
-/
import Derived.Test.YbulkdkmoCWholeLeaf
import Derived.Lib.Builder
import Derived.Lib.SliceRun
namespace Go.Proofs.Ybulkdkmo
open Go.ChangeShapes Go.WideShapes Go.ChangeAt Go.RowKit
set_option maxRecDepth 100000 in
theorem top_inner (g kb b n cap : Nat) (x : Int) (w : World) (hn : 0 < n) (hm : n ≤ 1048576)
    (h1 : w.cell? ⟨g, 1, none⟩ = some (.pointer (some ⟨kb, 0, none⟩))) (h2 : w.cell? ⟨kb, 0, none⟩ = some (.slice (some ⟨b, 0, none⟩) n cap))
    (hx : w.cell? ⟨b, (n - 1) * 3, none⟩ = some (.int .u64 x)) :
    Calls Yba.prog 12 #[.pointer (some ⟨g, 0, none⟩)] w fun e w' => e = .returned (.int .u64 x) ∧ ∃ m, w' = w.drewN m := by
  go_enter Yba.func12, Yba.ntmps12
  go_wp2
  go_ret
  exact ⟨rfl, 0, rfl⟩
theorem make_kids (n : Nat) (hn : n ≤ 1048576) (w : World) : (Instr.makeSlice 48 (.int .i64 (n : Int)) (.int .i64 (n : Int))).run Yba.prog w = .ok (.slice (some ⟨w.heap.size, 0, none⟩) n n) (w.alloc (.cells (madeCells #[.int .u64 0, .int .i64 0, .pointer none] (n * 3)) 56)) := by
  obtain ⟨i, hi, hz0, hz1, hz2⟩ := info_parts Yba.info56
  have := run_make (P := Yba.prog) w 48 56 i _ Yba.underlying48 hi hz0 .i64 .i64 n n (by omega) (by omega) (by rw [hz2]; omega) (by omega)
  rw [hz1] at this
  simpa [Value.cells] using this
theorem Yba.info48 : (Yba.prog.info? 48).map (fun i => (i.zero, i.size, i.bytes)) = some (some (.slice none 0 0), 1, 24) := by kernel_rfl
def FilledK (zs : List Int) (c : Array Value) (k : Nat) : Prop := ∀ j, j < k → c[j * 3]? = some (.int .u64 (zs.getD j 0)) ∧ c[j * 3 + 1]? = some (.int .i64 1)
theorem FilledK.step {zs : List Int} {c : Array Value} {k n : Nat} (h : FilledK zs c k) (hc : c.size = n * 3) (hk : k < n) (v : Value) : FilledK zs (((c.setIfInBounds (k * 3) (.int .u64 (zs[k]?.getD 0))).setIfInBounds (k * 3 + 1) (.int .i64 1)).setIfInBounds (k * 3 + 2) v) (k + 1) := by
  intro j hj
  by_cases e : j = k
  · subst e
    constructor
    · rw [Array.getElem?_setIfInBounds, if_neg (by omega), Array.getElem?_setIfInBounds, if_neg (by omega), Array.getElem?_setIfInBounds, if_pos rfl, if_pos (by omega)]; simp
    · rw [Array.getElem?_setIfInBounds, if_neg (by omega), Array.getElem?_setIfInBounds, if_pos rfl, if_pos (by simp; omega)]
  · obtain ⟨h1, h2⟩ := h j (by omega)
    constructor
    · rw [Array.getElem?_setIfInBounds, if_neg (by omega), Array.getElem?_setIfInBounds, if_neg (by omega), Array.getElem?_setIfInBounds, if_neg (by omega)]; exact h1
    · rw [Array.getElem?_setIfInBounds, if_neg (by omega), Array.getElem?_setIfInBounds, if_neg (by omega), Array.getElem?_setIfInBounds, if_neg (by omega)]; exact h2
set_option maxRecDepth 100000 in
theorem inner_walk (a0 : Option Addr) (len0 cap0 : Nat) (b off len cap : Nat) (zs : List Int) (w : World)
   (hl : 0 < len) (h1 : len0 + len ≤ 1048576) (hz : zs.length = cap) (hlc : len ≤ cap) (hbl : b < w.heap.size) (hcell : ∀ i, i < zs.length → w.cell? ⟨b, off + i, none⟩ = some (.int .u64 (zs.getD i 0))) :
    Calls Yba.prog 5 #[.slice a0 len0 cap0, .slice (some ⟨b, off, none⟩) len cap, .bool true] w fun e w' => e = .returned (.bool true) ∧ Below w.heap.size w w' := by
  have hmk := make_kids len (by omega)
  have HC : Hid (∀ i, i < zs.length → w.cell? ⟨b, off + i, none⟩ = some (.int .u64 (zs.getD i 0))) := hcell
  clear hcell
  have hgt : decide (1048576 < (len0 : Int) + (len : Int)) = false := by simp; omega
  go_enter Yba.func5, Yba.ntmps5
  go_wp2_with fail
  go_loopg [8, 11] len (fun g want i wr => ∃ k : Nat, g = len - k ∧ k ≤ len ∧ i = .int .i64 k ∧ want = .int .u64 (wantV zs k) ∧ Below w.heap.size w wr ∧ Blk wr (w.heap.size + 1) #[.slice (some ⟨w.heap.size, 0, none⟩) len len] 48 ∧ ∃ c, Blk wr w.heap.size c 56 ∧ c.size = len * 3 ∧ FilledK zs c k)
  case atStart =>
    exact ⟨0, rfl, Nat.zero_le _, rfl, rfl, ((Below.refl _ _).alloc (Nat.le_refl _) _).alloc (by simp) _, by simpa using Blk.new (w.alloc (.cells (madeCells #[.int .u64 0, .int .i64 0, .pointer none] (len * 3)) 56)) #[.slice (some ⟨w.heap.size, 0, none⟩) len len] 48, _, (Blk.new _ _ _).alloc _, size_madeCells _ _, fun j hj => absurd hj (by omega)⟩
  case round =>
    obtain ⟨k, hgk, hk, rfl, rfl, hbel, hbv, c, hblk, hcs, hfill⟩ := hrel
    have HG : Hid (gk = len - k) := hgk
    clear hgk
    by_cases hlt : k < len
    · have hcx : wr.cell? ⟨b, off + k, none⟩ = some (.int .u64 (zs.getD k 0)) := (hbel.cell (by exact hbl)).trans (HC.out k (by omega))
      obtain ⟨v0, hv0⟩ : ∃ v, c[k * 3]? = some v := ⟨_, Array.getElem?_eq_getElem (by omega)⟩
      obtain ⟨v1, hv1⟩ : ∃ v, c[k * 3 + 1]? = some v := ⟨_, Array.getElem?_eq_getElem (by omega)⟩
      obtain ⟨v2, hv2⟩ : ∃ v, c[k * 3 + 2]? = some v := ⟨_, Array.getElem?_eq_getElem (by omega)⟩
      have hbw : b < wr.heap.size := Nat.lt_of_lt_of_le hbl hbel.size
      have hsz : w.heap.size + 1 < wr.heap.size := hbv.lt
      have HB : Hid (Blk wr (w.heap.size + 1) #[.slice (some ⟨w.heap.size, 0, none⟩) len len] 48 ∧ Blk wr w.heap.size c 56 ∧ c.size = len * 3 ∧ FilledK zs c k ∧ Below w.heap.size w wr) := ⟨hbv, hblk, hcs, hfill, hbel⟩
      clear hbv hblk hcs hfill hbel
      go_wp2_with fail
      obtain ⟨hbv, hblk, hcs, hfill, hbel⟩ := HB.out
      clear HB
      replace hbv := (hbv.alloc (.cells #[.int .i64 k, .int .u64 (zs[k]?.getD 0)] 50)).alloc (.cells #[.slice (some ⟨wr.heap.size, 0, none⟩) 1 1, .pointer none] 54)
      replace hblk := (hblk.alloc (.cells #[.int .i64 k, .int .u64 (zs[k]?.getD 0)] 50)).alloc (.cells #[.slice (some ⟨wr.heap.size, 0, none⟩) 1 1, .pointer none] 54)
      replace hbel := (hbel.alloc hbel.size (.cells #[.int .i64 k, .int .u64 (zs[k]?.getD 0)] 50)).alloc (by have := hbel.size; simp; omega) (.cells #[.slice (some ⟨wr.heap.size, 0, none⟩) 1 1, .pointer none] 54)
      generalize (wr.alloc (.cells #[.int .i64 k, .int .u64 (zs[k]?.getD 0)] 50)).alloc (.cells #[.slice (some ⟨wr.heap.size, 0, none⟩) 1 1, .pointer none] 54) = w3 at *
      replace hcx : w3.cell? ⟨b, off + k, none⟩ = some (.int .u64 (zs.getD k 0)) := (hbel.cell (by exact hbl)).trans (HC.out k (by omega))
      have hv := hbv.cell (i := 0) (by rfl)
      have hc0 := hblk.cell hv0
      have hc1 := hblk.cell hv1
      have hc2 := hblk.cell hv2
      have hf0 := hblk.frozen (k * 3)
      have hf1 := hblk.frozen (k * 3 + 1)
      have hf2 := hblk.frozen (k * 3 + 2)
      have HB : Hid (Blk w3 (w.heap.size + 1) #[.slice (some ⟨w.heap.size, 0, none⟩) len len] 48 ∧ Blk w3 w.heap.size c 56 ∧ c.size = len * 3 ∧ FilledK zs c k ∧ Below w.heap.size w w3) := ⟨hbv, hblk, hcs, hfill, hbel⟩
      clear hbv hblk hcs hfill hbel hv0 hv1 hv2
      go_region
      go_wp2_with fail
      obtain ⟨hbv, hblk, hcs, hfill, hbel⟩ := HB.out
      go_roundg (len - (k + 1))
      case measure => have := HG.out; omega
      case rel => exact ⟨k + 1, rfl, by omega, by go_num, by simp [wantV], (((hbel.setCell (Nat.le_refl _) _).setCell (Nat.le_refl _) _).setCell (Nat.le_refl _) _).drew, (((hbv.setOther (by simp) _).setOther (by simp) _).setOther (by simp) _).drew, _, (((hblk.set _ _).set _ _).set _ _).drew, by simpa using hcs, hfill.step hcs hlt _⟩
    · obtain rfl : len = k := by omega
      have hcw : c[(len - 1) * 3]? = some (.int .u64 (wantV zs len)) := by
        obtain ⟨m, rfl⟩ : ∃ m, len = m + 1 := ⟨len - 1, by omega⟩
        exact (hfill m (by omega)).1
      have hbw : b < wr.heap.size := Nat.lt_of_lt_of_le hbl hbel.size
      have hsz : w.heap.size + 1 < wr.heap.size := hbv.lt
      have HB : Hid (Blk wr (w.heap.size + 1) #[.slice (some ⟨w.heap.size, 0, none⟩) len len] 48 ∧ Blk wr w.heap.size c 56 ∧ c.size = len * 3 ∧ FilledK zs c len ∧ Below w.heap.size w wr) := ⟨hbv, hblk, hcs, hfill, hbel⟩
      clear hbv hblk hcs hfill hbel hk
      go_wp2_with fail
      obtain ⟨hbv, hblk, hcs, hfill, hbel⟩ := HB.out
      clear HB
      have hbn := Blk.new wr #[.slice none 0 0, .pointer (some ⟨w.heap.size + 1, 0, none⟩)] 54
      replace hbv := hbv.alloc (.cells #[.slice none 0 0, .pointer (some ⟨w.heap.size + 1, 0, none⟩)] 54)
      replace hblk := hblk.alloc (.cells #[.slice none 0 0, .pointer (some ⟨w.heap.size + 1, 0, none⟩)] 54)
      replace hbel := hbel.alloc hbel.size (.cells #[.slice none 0 0, .pointer (some ⟨w.heap.size + 1, 0, none⟩)] 54)
      generalize (wr.alloc (.cells #[.slice none 0 0, .pointer (some ⟨w.heap.size + 1, 0, none⟩)] 54)) = w3 at *
      generalize wr.heap.size = nb at *
      refine (top_inner nb (w.heap.size + 1) w.heap.size len len (wantV zs len) _ hl (by omega) (hbn.cell (by rfl)) (hbv.cell (by rfl)) (hblk.cell hcw)).mono ?_
      rintro e w' ⟨rfl, mm, rfl⟩
      replace hbv := hbv.drewN mm
      replace hblk := hblk.drewN mm
      replace hbel := belowN hbel mm
      replace hbn := hbn.drewN mm
      generalize w3.drewN mm = w4 at *
      have hn0 := hbn.cell (i := 0) (v := .slice none 0 0) (by rfl)
      have hn1 := hbn.cell (i := 1) (v := .pointer (some ⟨w.heap.size + 1, 0, none⟩)) (by rfl)
      have hv0 := hbv.cell (i := 0) (v := .slice (some ⟨w.heap.size, 0, none⟩) len len) (by rfl)
      clear hcw
      obtain ⟨i48, hi48, -, -, -⟩ := info_parts Yba.info48
      have hpp := fun wz => Lib.run_neq_ptr_same (P := Yba.prog) wz (tp := 52) ⟨w.heap.size + 1, 0, none⟩ Yba.underlying52 hi48
      clear hi48
      go_wp2_with fail
      clear hpp
      go_loopg [18] len (fun g i wx => ∃ k : Nat, g = len - k ∧ k ≤ len ∧ i = .int .i64 k ∧ Below w.heap.size w wx ∧ Blk wx w.heap.size c 56 ∧ Blk wx nb #[.slice none 0 0, .pointer (some ⟨w.heap.size + 1, 0, none⟩)] 54)
      case atStart => exact ⟨0, rfl, Nat.zero_le _, rfl, hbel, hblk, hbn⟩
      case round =>
        obtain ⟨k, hgk, hk, rfl, hbel', hbk, hbn'⟩ := hrel
        clear HG hn0 hn1 hv0 hbv hblk hbel hbn
        have HG : Hid (gk = len - k) := hgk
        clear hgk
        by_cases hlt : k < len
        · have hcx : wr.cell? ⟨b, off + k, none⟩ = some (.int .u64 (zs.getD k 0)) := (hbel'.cell (by exact hbl)).trans (HC.out k (by omega))
          have hc0 := hbk.cell (hfill k hlt).1
          have hc1 := hbk.cell (hfill k hlt).2
          have HB2 : Hid (Blk wr w.heap.size c 56 ∧ Blk wr nb #[.slice none 0 0, .pointer (some ⟨w.heap.size + 1, 0, none⟩)] 54 ∧ Below w.heap.size w wr) := ⟨hbk, hbn', hbel'⟩
          clear hbk hbn' hbel' hcs hfill
          go_wp2_with fail
          go_quiet (fail)
          go_wp2_with fail
          obtain ⟨hbk, hbn', hbel'⟩ := HB2.out
          go_roundg (len - (k + 1))
          case measure => have := HG.out; omega
          case rel => exact ⟨k + 1, rfl, by omega, by go_num, belowN hbel' _, hbk.drewN _, hbn'.drewN _⟩
        · have hn0 := hbn'.cell (i := 0) (v := .slice none 0 0) (by rfl)
          have hnil := fun wz => Lib.run_eql_slice_nil (P := Yba.prog) wz 51 50 none 0 0 0 0 Yba.underlying51
          go_wp2_with fail
          go_ret
          exact ⟨rfl, hbel'⟩
end Go.Proofs.Ybulkdkmo
