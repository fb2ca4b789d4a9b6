/-
  LawS5578CLeaves: slices.Sort at uint64, this program's own text walked: Sort. The walks are the guide's worked walks at int (Derived/Sort), turned to this program and to uint64.
-/
import Derived.Test.YbulkdkmoSortP
import Derived.Test.YbulkdkmoSortC
import Derived.Test.YbulkdkmoSortD
import Derived.Test.YbulkdkmoSortE
import Derived.Test.YbulkdkmoSortF
import Derived.Sort.WalkA14
import Derived.Sort.AssemblyPlain
namespace Go.Proofs.Ybulkdkmo
open Go.RowKit Go.Sort Go.Proofs
set_option linter.unusedVariables false
def pdqWalk_int : Prop := ∀ (blk off cap a b limit : Nat) (d : Array Int) (w : World), Holds (Value.int .u64) w blk off d → blk < w.heap.size → a ≤ b → b ≤ d.size → d.size < 4611686018427387904 → limit < 4611686018427387904 → Below ltInt a b d →
  Calls Yba.prog 18 #[.slice (some ⟨blk, off, none⟩) d.size cap, .int .i64 a, .int .i64 b, .int .i64 limit] w fun e w' =>
    e = .returned (.tuple #[]) ∧ ∃ n os, w' = grow (putRow (Value.int .u64) (Sort.ahead w n) blk off (Sort.pdq ltInt d a b limit true true)) os

set_option maxRecDepth 100000 in
theorem U.Sort_int (hpdq : pdqWalk_int) (blk off cap : Nat) (d : Array Int) (w : World) (hH : Holds (Value.int .u64) w blk off d) (hblk : blk < w.heap.size) (hsz : d.size < 4611686018427387904) :
    Calls Yba.prog 14 #[.slice (some ⟨blk, off, none⟩) d.size cap] w fun e w' => e = .returned (.tuple #[]) ∧ ∃ n os, w' = grow (putRow (Value.int .u64) (Sort.ahead w n) blk off (Sort.sort ltInt d)) os := by
  have HH : Hid (Holds (Value.int .u64) w blk off d) := hH
  clear hH
  have hLen : ∀ w, Calls Yba.prog 19 #[.int .u64 (d.size : Int)] w fun e w' => e = .returned (.int .i64 (bitsLen d.size : Nat)) ∧ w' = w := fun w => by
    have h := U.bits_Len (d.size : Int) w (by omega) (by omega)
    rwa [Int.toNat_natCast, bitLen_eq _ (by omega)] at h
  have hk : bitsLen d.size ≤ 62 := (bitsLen_le_iff d.size 62).2 (by omega)
  go_enter Yba.func14, Yba.ntmps14
  go_wp2_with (first
    | (go_at_call 19; refine (hLen _).mono ?_; rintro e w' ⟨rfl, rfl⟩)
    | (go_at_call 18; refine (hpdq blk off cap 0 d.size (bitsLen d.size) d _ (by exact HH.out) (by exact hblk) (Nat.zero_le _) (Nat.le_refl _) hsz (by omega) (Or.inl rfl)).mono ?_; rintro e w' ⟨rfl, n, os, rfl⟩))
  go_end0
  exact ⟨rfl, n, os, rfl⟩

theorem calleesU : Callees13 where
  ins := U.insertionSort_int
  brk := U.breakPatterns_int
  piv := U.choosePivot_int
  par := U.partialInsertionSort_int
  peq := U.partitionEqualOrdered_int
  prt := U.partitionOrdered_int

theorem plainU : Plain13 where
  swo := swo_ltInt
  ins := insertionSort_holds
  par := partialInsertionSort_holds
  prt := partition_holds _
  peq := partitionEqual_holds _
  pdq := pdq_sorts _

theorem pdqWalkU : pdqWalk_int := fun blk off cap a b limit d w hH hb hab hbd hsz hl hB =>
  U.pdqsort_int calleesU plainU (b - a + 1) blk off cap a b limit d w (by omega) hH hb hab hbd hsz hl hB

theorem sort_eqU (zs : List Int) : Sort.sort ltInt zs.toArray = (zs.mergeSort fun x y => decide (x ≤ y)).toArray := by
  rw [← sortInt zs]

/-- slices.Sort at []uint64: the cells then hold the sorted list; the world is as it was but for those cells, the count of draws, new blocks behind the heap. -/
theorem U.slices_Sort (blk off cap : Nat) (zs : List Int) (w : World) (hH : Holds (Value.int .u64) w blk off zs.toArray) (hblk : blk < w.heap.size) (hsz : zs.length < 4611686018427387904) :
    Calls Yba.prog 14 #[.slice (some ⟨blk, off, none⟩) zs.length cap] w fun e w' =>
      e = .returned (.tuple #[]) ∧ ∃ n os, w' = grow (putRow (Value.int .u64) (Sort.ahead w n) blk off (zs.mergeSort fun x y => decide (x ≤ y)).toArray) os := by
  have h := U.Sort_int pdqWalkU blk off cap zs.toArray w hH hblk (by simpa using hsz)
  rw [sort_eqU] at h
  simpa using h
end Go.Proofs.Ybulkdkmo
