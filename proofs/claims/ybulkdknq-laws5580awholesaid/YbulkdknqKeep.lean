/-
  zzs5580akeep: its contract.
-/
import Derived.Test.YbulkdknqProg
import Derived.Test.YbulkdknqKit
import Derived.WalkKit
import Derived.ProofKit
import Derived.Outline
import Derived.RegionTactic
import Derived.ChangeAlike
import Derived.WalkSpells
import Derived.Deep.LoopGhost
import Derived.Deep.QuietTactic
import Derived.BigQuiet
import Derived.OneCell
namespace Go.Proofs.Ybulkdknq
open Go.ChangeShapes Go.WideShapes Go.ChangeAt Go.RowKit
set_option linter.unusedVariables false
/-- Is the place v kept: its member's watched access is on object x. -/
def keepB (M T O : Nat → Int) (x : Int) (v : Nat) : Bool := decide (0 ≤ T (M v).toNat) && (O (T (M v).toNat).toNat == x)
set_option maxRecDepth 100000 in
theorem keep_any (bm bw bo nm nT nA : Nat) (M T O : Nat → Int) (x : Int) (v : Nat) (w : World) (hM : Row w bm 3 nm (fun j => .int .i64 (M j))) (hT : Row w bw 3 nT (fun j => .int .i64 (T j))) (hO : Row w bo 3 nA (fun j => .int .i64 (O j)))
    (hv : v < nm) (hm0 : 0 ≤ M v) (hmT : M v < nT) (ht : 0 ≤ T (M v).toNat → T (M v).toNat < nA) (hnm : nm ≤ 70000) (hnT : nT ≤ 70000) (hnA : nA ≤ 70000) :
    Calls Yba.prog 5 #[.slice (some ⟨bm, 0, none⟩) nm nm, .slice (some ⟨bw, 0, none⟩) nT nT, .slice (some ⟨bo, 0, none⟩) nA nA, .int .i64 v, .int .i64 x] w fun e w' => e = .returned (.bool (keepB M T O x v)) ∧ w' = w := by
  obtain ⟨m, hm⟩ : ∃ m : Nat, M v = m := ⟨(M v).toNat, by omega⟩
  have c1 := hM.cell hv
  simp only [hm] at c1
  have c2 := hT.cell (j := m) (by omega)
  rw [hm] at ht hmT
  simp only [Int.toNat_natCast] at ht
  have hmT' : m < nT := by omega
  by_cases h0 : 0 ≤ T m
  · obtain ⟨a, ha⟩ : ∃ a : Nat, T m = a := ⟨(T m).toNat, by omega⟩
    have hk : keepB M T O x v = (O a == x) := by simp [keepB, hm, ha]
    rw [hk]
    rw [ha] at ht
    simp only [ha] at c2
    have c3 := hO.cell (j := a) (by omega)
    have haA : a < nA := by omega
    have q : decide ((0 : Int) ≤ a) = true := by simp
    clear ha h0 ht hM hT hO hk hm hm0 hmT
    go_enter Yba.func5, Yba.ntmps5
    go_wp2_with fail
    go_ret
    exact ⟨rfl, rfl⟩
  · have q : decide (0 ≤ T m) = false := by simpa using h0
    have hk : keepB M T O x v = false := by simp [keepB, hm]; intro h; omega
    rw [hk]
    clear hM hT hO ht hk hm hm0 hmT
    go_enter Yba.func5, Yba.ntmps5
    go_wp2_with fail
    go_ret
    exact ⟨rfl, rfl⟩
end Go.Proofs.Ybulkdknq
