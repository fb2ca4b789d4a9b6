/-
  LawS5581CPart: the callees by which nothing is written: cmp.Less, slices.BinarySearch, declines, declined, look.
-/
import Derived.Test.YbulkdkoeGreatFmtRows
import Derived.Test.YbulkdkoeGreatFmtKit
import Derived.WalkKit
import Derived.ProofKit
import Derived.Outline
import Derived.RegionTactic
import Derived.ChangeAlike
import Derived.WalkSpells
import Derived.Deep.LoopGhost
import Derived.Deep.QuietTactic
import Derived.BigQuiet
import Derived.OneCell
import Derived.Deep.RegionWith
import Derived.Deep.DeepCutAuto
import Derived.Lib.SliceRun
import Derived.Lib.Builder
namespace Go.Proofs.YbulkdkoeGreatFmt
open Go.RowKit
set_option linter.unusedVariables false

/-- The slice at ao holds the integers Z 0, .., Z (n - 1). -/
def Ints (w : World) (ao : Option Addr) (n : Nat) (Z : Nat → Int) : Prop := 0 < n → ∃ b o, ao = some ⟨b, o, none⟩ ∧ b < w.heap.size ∧ ∀ j, j < n → w.cell? ⟨b, o + j, none⟩ = some (.int .i64 (Z j))
theorem Ints.below {B : Nat} {w w' : World} {ao : Option Addr} {n : Nat} {Z : Nat → Int} (h : Ints w ao n Z) (hb : Below B w w') (hB : w.heap.size ≤ B := by exact Nat.le_refl _) : Ints w' ao n Z := by
  intro hn
  obtain ⟨b, o, h1, h2, h3⟩ := h hn
  refine ⟨b, o, h1, Nat.lt_of_lt_of_le h2 hb.size, fun j hj => ?_⟩
  rw [hb.cell (p := ⟨b, o + j, none⟩) (Nat.lt_of_lt_of_le h2 hB)]
  exact h3 j hj

set_option maxRecDepth 100000 in
theorem isNaN_a (x : Int) (w : World) : Calls Ybaz.prog 78 #[.int .i64 x] w fun e w' => e = .returned (.bool false) ∧ w' = w := by
  go_enter Ybaz.func78, Ybaz.ntmps78
  go_wp2
  go_ret
  exact ⟨by simp, rfl⟩

set_option maxRecDepth 100000 in
theorem isNaN_b (x : Int) (w : World) : Calls Ybaz.prog 90 #[.int .i64 x] w fun e w' => e = .returned (.bool false) ∧ w' = w := by
  go_enter Ybaz.func90, Ybaz.ntmps90
  go_wp2
  go_ret
  exact ⟨by simp, rfl⟩
set_option maxRecDepth 100000 in
theorem less (x y : Int) (w : World) : Calls Ybaz.prog 77 #[.int .i64 x, .int .i64 y] w fun e w' => e = .returned (.bool (decide (x < y))) ∧ w' = w := by
  go_enter Ybaz.func77, Ybaz.ntmps77
  go_wp2_with (go_at_call 90; refine (isNaN_b _ _).mono ?_; rintro e w' ⟨rfl, rfl⟩)
  go_ret
  exact ⟨rfl, rfl⟩
/-- Where the search ends. -/
def bs (Z : Nat → Int) (x : Int) : Nat → Nat → Nat → Nat
  | 0, i, _ => i
  | f + 1, i, j => if i < j then (if Z ((i + j) / 2) < x then bs Z x f ((i + j) / 2 + 1) j else bs Z x f i ((i + j) / 2)) else i
def found (Z : Nat → Int) (n : Nat) (x : Int) : Bool := decide (bs Z x n 0 n < n) && decide (Z (bs Z x n 0 n) = x)
theorem bs_fuel (Z : Nat → Int) (x : Int) : ∀ (f g i j : Nat), j - i ≤ f → j - i ≤ g → bs Z x f i j = bs Z x g i j
  | 0, 0, i, j, _, _ => rfl
  | 0, g + 1, i, j, h1, h2 => by rw [bs, bs, if_neg (by omega)]
  | f + 1, 0, i, j, h1, h2 => by rw [bs, bs, if_neg (by omega)]
  | f + 1, g + 1, i, j, h1, h2 => by
    rw [bs, bs]
    by_cases h : i < j
    · rw [if_pos h, if_pos h, bs_fuel Z x f g _ _ (by omega) (by omega), bs_fuel Z x f g _ _ (by omega) (by omega)]
    · rw [if_neg h, if_neg h]
set_option maxRecDepth 100000 in
set_option maxHeartbeats 4000000 in
theorem search (ao : Option Addr) (n c : Nat) (Z : Nat → Int) (x : Int) (w : World) (hI : Ints w ao n Z) (hn : n ≤ 2000000) : Calls Ybaz.prog 54 #[.slice ao n c, .int .i64 x] w fun e w' => (∃ k, e = .returned (.tuple #[.int .i64 k, .bool (found Z n x)])) ∧ w' = w := by
  have HI : Hid (Ints w ao n Z) := hI
  clear hI
  go_enter Ybaz.func54, Ybaz.ntmps54
  go_wp2_with fail
  go_loopg [7, 8] n (fun g a b wr => ∃ i j : Nat, a = .int .i64 i ∧ b = .int .i64 j ∧ i ≤ j ∧ j ≤ n ∧ j - i ≤ g ∧ (∀ f, j - i ≤ f → bs Z x f i j = bs Z x n 0 n) ∧ w = wr)
  case atStart => exact ⟨0, n, rfl, rfl, Nat.zero_le _, Nat.le_refl _, by omega, fun f hf => bs_fuel Z x f n 0 n (by omega) (by omega), rfl⟩
  case round =>
    obtain ⟨i, j, rfl, rfl, hij, hjn, hg, hb, hwr⟩ := hrel
    have HB : Hid (∀ f, j - i ≤ f → bs Z x f i j = bs Z x n 0 n) := hb
    clear hb
    subst hwr
    by_cases hlt : i < j
    · obtain ⟨b, o, rfl, hbl, hc⟩ := HI.out (by omega)
      have cm : w.cell? ⟨b, o + (i + j) / 2, none⟩ = some (.int .i64 (Z ((i + j) / 2))) := hc _ (by omega)
      clear hc
      generalize hy : Z ((i + j) / 2) = y at cm
      have Y : Hid (Z ((i + j) / 2) = y) := hy
      clear hy
      by_cases hyx : y < x
      · go_wp2_with (first | (go_at_call 77; refine (less _ _ _).mono ?_; rintro e w' ⟨rfl, rfl⟩) | (go_at_call 78; refine (isNaN_a _ _).mono ?_; rintro e w' ⟨rfl, rfl⟩))
        go_roundg (j - ((i + j) / 2 + 1))
        case measure => omega
        case rel =>
          refine ⟨(i + j) / 2 + 1, j, by rw [show ((i : Int) + (j : Int)) / 2 + 1 = (((i + j) / 2 + 1 : Nat) : Int) by omega], rfl, by omega, hjn, Nat.le_refl _, fun f hf => ?_, rfl⟩
          rw [← HB.out (f + (j - i) + 1) (by omega), bs, if_pos hlt, if_pos (by rw [Y.out]; exact hyx)]
          exact bs_fuel _ _ _ _ _ _ hf (by omega)
      · go_wp2_with (first | (go_at_call 77; refine (less _ _ _).mono ?_; rintro e w' ⟨rfl, rfl⟩) | (go_at_call 78; refine (isNaN_a _ _).mono ?_; rintro e w' ⟨rfl, rfl⟩))
        go_roundg ((i + j) / 2 - i)
        case measure => omega
        case rel =>
          refine ⟨i, (i + j) / 2, rfl, by rw [show ((i : Int) + (j : Int)) / 2 = (((i + j) / 2 : Nat) : Int) by omega], by omega, by omega, Nat.le_refl _, fun f hf => ?_, rfl⟩
          rw [← HB.out (f + (j - i) + 1) (by omega), bs, if_pos hlt, if_neg (by rw [Y.out]; omega)]
          exact bs_fuel _ _ _ _ _ _ hf (by omega)
    · have : j = i := by omega
      subst this
      have hE : bs Z x n 0 n = j := (HB.out 0 (by omega)).symm
      have E : Hid (bs Z x n 0 n = j) := hE
      clear hE
      by_cases hn2 : j < n
      · obtain ⟨b, o, rfl, hbl, hc⟩ := HI.out (by omega)
        have cl : w.cell? ⟨b, o + j, none⟩ = some (.int .i64 (Z j)) := hc _ (by omega)
        clear hc
        generalize hy : Z j = y at cl
        have Y : Hid (Z j = y) := hy
        clear hy
        by_cases hyx : y = x
        · subst hyx
          go_wp2_with (first | (go_at_call 77; refine (less _ _ _).mono ?_; rintro e w' ⟨rfl, rfl⟩) | (go_at_call 78; refine (isNaN_a _ _).mono ?_; rintro e w' ⟨rfl, rfl⟩))
          go_ret2
          refine ⟨⟨(j : Int), ?_⟩, rfl⟩
          unfold found
          rw [E.out, Y.out, decide_eq_true hn2, decide_eq_true rfl]
          first | rfl | simp [*]
        · go_wp2_with (first | (go_at_call 77; refine (less _ _ _).mono ?_; rintro e w' ⟨rfl, rfl⟩) | (go_at_call 78; refine (isNaN_a _ _).mono ?_; rintro e w' ⟨rfl, rfl⟩))
          go_ret2
          refine ⟨⟨(j : Int), ?_⟩, rfl⟩
          unfold found
          rw [E.out, Y.out, decide_eq_true hn2, decide_eq_false hyx]
          first | rfl | simp [*]
      · go_wp2_with (first | (go_at_call 77; refine (less _ _ _).mono ?_; rintro e w' ⟨rfl, rfl⟩) | (go_at_call 78; refine (isNaN_a _ _).mono ?_; rintro e w' ⟨rfl, rfl⟩))
        go_ret2
        refine ⟨⟨(j : Int), ?_⟩, rfl⟩
        unfold found
        rw [E.out, decide_eq_false hn2]
        first | rfl | simp [*]

set_option maxRecDepth 100000 in
set_option maxHeartbeats 4000000 in
theorem declines (bP q : Nat) (ao : Option Addr) (n c : Nat) (Z : Nat → Int) (x : Int) (w : World) (h11 : w.cell? ⟨bP, q + 11, none⟩ = some (.slice ao n c)) (hI : Ints w ao n Z) (hn : n ≤ 2000000) : Calls Ybaz.prog 29 #[.pointer (some ⟨bP, q, none⟩), .int .i64 x] w fun e w' => e = .returned (.bool (found Z n x)) ∧ w' = w := by
  have HI : Hid (Ints w ao n Z) := hI
  clear hI
  go_enter Ybaz.func29, Ybaz.ntmps29
  go_wp2_with (go_at_call 54; refine (search _ _ _ Z _ _ HI.out hn).mono ?_; rintro e w' ⟨⟨k, rfl⟩, rfl⟩)
  go_ret
  exact ⟨rfl, rfl⟩
/-- The Sim of the law: four peers, each with the same list of declines. -/
structure SimAt (w : World) (bS bP : Nat) (ao : Option Addr) (n c : Nat) (Z : Nat → Int) : Prop where
  peers : w.cell? ⟨bS, 10, none⟩ = some (.slice (some ⟨bP, 0, none⟩) 4 4)
  decl : ∀ k, k < 4 → w.cell? ⟨bP, k * 12 + 11, none⟩ = some (.slice ao n c)
  ints : Ints w ao n Z
/-- A source of the law: no publisher, no ready side, no fresh trade. -/
structure SrcAt (w : World) (b : Nat) (idle : Bool) (g t : Nat) : Prop where
  c0 : w.cell? ⟨b, 0, none⟩ = some (.int .i64 g)
  c1 : w.cell? ⟨b, 1, none⟩ = some (.int .i64 t)
  c4 : w.cell? ⟨b, 4, none⟩ = some (.bool idle)
  c7 : w.cell? ⟨b, 7, none⟩ = some (.int .i32 0)
  c13 : w.cell? ⟨b, 13, none⟩ = some (.pointer none)
  c14 : w.cell? ⟨b, 14, none⟩ = some (.slice none 0 0)
  gl : g < 4
  tl : t < 4
theorem SimAt.drewN {w : World} {bS bP : Nat} {ao : Option Addr} {n c : Nat} {Z : Nat → Int} (h : SimAt w bS bP ao n c Z) (m : Nat) : SimAt (w.drewN m) bS bP ao n c Z := by
  induction m with
  | zero => exact h
  | succ m ih => exact ⟨ih.1, ih.2, ih.3⟩
theorem SrcAt.drewN {w : World} {b : Nat} {idle : Bool} {g t : Nat} (h : SrcAt w b idle g t) (m : Nat) : SrcAt (w.drewN m) b idle g t := by
  induction m with
  | zero => exact h
  | succ m ih => exact ⟨ih.1, ih.2, ih.3, ih.4, ih.5, ih.6, ih.7, ih.8⟩
set_option maxRecDepth 100000 in
set_option maxHeartbeats 4000000 in
theorem declined (bS bP b : Nat) (ao : Option Addr) (n c : Nat) (Z : Nat → Int) (idle : Bool) (g t : Nat) (w : World) (hS : SimAt w bS bP ao n c Z) (hs : SrcAt w b idle g t) (hn : n ≤ 2000000) : Calls Ybaz.prog 9 #[.pointer (some ⟨bS, 0, none⟩), .pointer (some ⟨b, 0, none⟩)] w fun e w' => e = .returned (.bool (found Z n g)) ∧ ∃ m, w' = w.drewN m := by
  have HS : Hid (SimAt w bS bP ao n c Z) := hS
  have h13 := hs.c13
  have h0 := hs.c0
  have h1 := hs.c1
  have hg := hs.gl
  have ht := hs.tl
  have h10 := hS.peers
  have h11 := hS.decl t ht
  clear hS hs
  go_enter Ybaz.func9, Ybaz.ntmps9
  go_wp2_with fail
  go_quiet (first | (go_at_call 29; refine Calls.quiet_of_same (declines _ _ _ _ _ _ _ _ ((HS.out.drewN _).decl t ht) (HS.out.drewN _).ints hn)))
  go_wp2
  go_ret
  exact ⟨rfl, _, rfl⟩
set_option maxRecDepth 100000 in
set_option maxHeartbeats 4000000 in
theorem look (bS bP b : Nat) (ao : Option Addr) (n c : Nat) (Z : Nat → Int) (idle : Bool) (g t : Nat) (w : World) (hS : SimAt w bS bP ao n c Z) (hs : SrcAt w b idle g t) (hn : n ≤ 2000000) : Calls Ybaz.prog 7 #[.pointer (some ⟨bS, 0, none⟩), .pointer (some ⟨b, 0, none⟩), .bool false] w fun e w' => (∃ v, e = .returned v) ∧ ∃ m, w' = w.drewN m := by
  have HS : Hid (SimAt w bS bP ao n c Z) := hS
  have HR : Hid (SrcAt w b idle g t) := hs
  have h13 := hs.c13
  have h4 := hs.c4
  clear hS hs
  go_enter Ybaz.func7, Ybaz.ntmps7
  cases idle with
  | true =>
    go_wp2_with fail
    go_ret
    exact ⟨⟨_, rfl⟩, 0, rfl⟩
  | false =>
    go_wp2_with fail
    refine (declined bS bP b ao n c Z false g t w HS.out HR.out hn).mono ?_
    rintro e w1 ⟨rfl, m1, rfl⟩
    have HS1 : Hid (SimAt (w.drewN m1) bS bP ao n c Z) := HS.out.drewN m1
    have HR1 : Hid (SrcAt (w.drewN m1) b false g t) := HR.out.drewN m1
    have k7 := HR1.out.c7
    have k14 := HR1.out.c14
    go_wp2_with fail
    go_loopg [9] 0 (fun g v wr => v = .bool false ∧ w.drewN m1 = wr)
    case atStart => exact ⟨rfl, rfl⟩
    case round =>
      obtain ⟨rfl, hwr⟩ := hrel
      subst hwr
      go_wp2_with fail
      refine (declined bS bP b ao n c Z false _ t _ HS1.out HR1.out hn).mono ?_
      rintro e w2 ⟨rfl, m2, rfl⟩
      go_wp2_with fail
      go_ret
      exact ⟨⟨_, rfl⟩, m1 + m2, rfl⟩
