/-
  LawS5582BWhole: the contracts of pieceList.at, find, runOf and of sort.Search with its closure.
-/
import Derived.Test.YbulkdkosProg
import Derived.Test.YbulkdkosKit
import Derived.Test.YbulkdkosPure
import Derived.WalkKit
import Derived.ProofKit
import Derived.Outline
import Derived.RegionTactic
import Derived.ChangeAlike
import Derived.WalkSpells
import Derived.Deep.LoopGhost
import Derived.Deep.QuietTactic
import Derived.BigQuiet
import Derived.OneCell
import Derived.Deep.RegionWith
import Derived.Deep.DeepCutAuto
import Derived.Lib.SliceRun
import Derived.Lib.Builder
namespace Go.Proofs.Ybulkdkos
open Go.ChangeShapes Go.WideShapes Go.ChangeAt Go.RowKit
set_option linter.unusedVariables false
abbrev ptrV (b : Nat) : Value := .pointer (some ⟨b, 0, none⟩)
set_option maxRecDepth 100000 in
theorem cl_any (r K cap i e : Nat) (bl bi br : Nat) (w : World) (hK : K ≤ 2000000) (hrk : r < K) (hl : w.cell? ⟨bl, 0, none⟩ = some (.slice (some ⟨br, 0, none⟩) K cap)) (hi : w.cell? ⟨bi, 0, none⟩ = some (.int .i64 i)) (he : w.cell? ⟨br, r * 2 + 1, none⟩ = some (.int .i64 e)) :
    Calls Yba.prog 27 #[.int .i64 r, ptrV bl, ptrV bi] w fun e' w' => e' = .returned (.bool (decide (i < e))) ∧ ∃ m, w' = w.drewN m := by
  go_enter Yba.func27, Yba.ntmps27
  go_wp2
  go_quiet (fail)
  go_wp2
  go_ret
  exact ⟨by simp, nq, rfl⟩
theorem low_ok {p : Nat → Bool} {K h : Nat} (hm : ∀ a b, a ≤ b → b < K → p a = true → p b = true) (hp : p h = false) (hh : h < K) : ∀ r, r < h + 1 → p r = false := by
  intro r hr
  cases hpr : p r with
  | false => rfl
  | true =>
    have := hm r h (by omega) hh hpr
    rw [hp] at this
    cases this
set_option maxRecDepth 100000 in
theorem search_any (K : Nat) (p : Nat → Bool) (bl bi : Nat) (w : World) (hK : K ≤ 2000000) (mono : ∀ a b, a ≤ b → b < K → p a = true → p b = true)
    (hcl : ∀ m r, r < K → Calls Yba.prog 27 #[.int .i64 r, ptrV bl, ptrV bi] (w.drewN m) fun e' w' => e' = .returned (.bool (p r)) ∧ ∃ m', w' = w.drewN m') :
    Calls Yba.prog 26 #[.int .i64 K, .func (.func 27) #[] #[ptrV bl, ptrV bi]] w fun e' w' => ∃ k : Nat, e' = .returned (.int .i64 k) ∧ k ≤ K ∧ (∀ r, r < k → p r = false) ∧ (∀ r, k ≤ r → r < K → p r = true) ∧ ∃ m, w' = w.drewN m := by
  have HC : Hid (∀ m r, r < K → Calls Yba.prog 27 #[.int .i64 r, ptrV bl, ptrV bi] (w.drewN m) fun e' w' => e' = .returned (.bool (p r)) ∧ ∃ m', w' = w.drewN m') := hcl
  have HM : Hid (∀ a b, a ≤ b → b < K → p a = true → p b = true) := mono
  clear hcl mono
  go_enter Yba.func26, Yba.ntmps26
  go_wp2_with fail
  go_loopg [5, 6] K (fun g a b wr => ∃ lo hi m : Nat, g = hi - lo ∧ lo ≤ hi ∧ hi ≤ K ∧ a = .int .i64 lo ∧ b = .int .i64 hi ∧ (∀ r, r < lo → p r = false) ∧ (∀ r, hi ≤ r → r < K → p r = true) ∧ wr = w.drewN m)
  case atStart => exact ⟨0, K, 0, rfl, Nat.zero_le _, Nat.le_refl _, rfl, rfl, fun r h => absurd h (by omega), fun r h h' => absurd h' (by omega), rfl⟩
  case round =>
    obtain ⟨lo, hi, m, hg, h1, h2, rfl, rfl, h3, h4, rfl⟩ := hrel
    have HG : Hid (gk = hi - lo ∧ (∀ r, r < lo → p r = false) ∧ (∀ r, hi ≤ r → r < K → p r = true)) := ⟨hg, h3, h4⟩
    clear hg h3 h4
    by_cases hlt : lo < hi
    · go_wp2_with fail
      obtain ⟨h, hh⟩ : ∃ h : Nat, ((lo : Int) + (hi : Int)) / 2 = (h : Int) := ⟨(lo + hi) / 2, by omega⟩
      have hh1 : lo ≤ h := by omega
      have hh2 : h < hi := by omega
      rw [hh]
      clear hh
      refine (HC.out m h (by omega)).mono ?_
      rintro e w' ⟨rfl, m', rfl⟩
      generalize hp : p h = ph
      have HP : Hid (p h = ph) := hp
      clear hp
      cases ph
      · go_wp2_with fail
        go_roundg (hi - (h + 1))
        case measure => have := HG.out.1; omega
        case rel => exact ⟨h + 1, hi, m', rfl, by omega, h2, by go_num, rfl, low_ok HM.out HP.out (by omega), HG.out.2.2, rfl⟩
      · go_wp2_with fail
        go_roundg (h - lo)
        case measure => have := HG.out.1; omega
        case rel => exact ⟨lo, h, m', rfl, hh1, by omega, rfl, rfl, HG.out.2.1, fun r hr hr2 => HM.out h r hr hr2 HP.out, rfl⟩
    · obtain rfl : lo = hi := by omega
      go_wp2_with fail
      go_ret
      exact ⟨lo, rfl, h2, HG.out.2.1, HG.out.2.2, m, rfl⟩
theorem drewN_add (w : World) (a b : Nat) : (w.drewN a).drewN b = w.drewN (a + b) := by simp [World.drewN, Nat.add_assoc]
theorem search_at (K k : Nat) (p : Nat → Bool) (bl bi : Nat) (w : World) (hK : K ≤ 2000000) (hk : k ≤ K) (h1 : ∀ r, r < k → p r = false) (h2 : ∀ r, k ≤ r → r < K → p r = true)
    (hcl : ∀ m r, r < K → Calls Yba.prog 27 #[.int .i64 r, ptrV bl, ptrV bi] (w.drewN m) fun e' w' => e' = .returned (.bool (p r)) ∧ ∃ m', w' = w.drewN m') :
    Calls Yba.prog 26 #[.int .i64 K, .func (.func 27) #[] #[ptrV bl, ptrV bi]] w fun e' w' => e' = .returned (.int .i64 k) ∧ ∃ m, w' = w.drewN m := by
  refine (search_any K p bl bi w hK (fun a b hab hb ha => ?_) hcl).mono ?_
  · refine h2 b ?_ hb
    by_cases hak : a < k
    · rw [h1 a hak] at ha; cases ha
    · omega
  · rintro e w' ⟨k', rfl, hk', g1, g2, m, rfl⟩
    have : k' = k := by
      rcases Nat.lt_trichotomy k' k with h | h | h
      · have a := g2 k' (Nat.le_refl _) (by omega); rw [h1 k' h] at a; cases a
      · exact h
      · have a := h2 k (Nat.le_refl _) (by omega); rw [g1 k h] at a; cases a
    subst this
    exact ⟨rfl, m, rfl⟩
/-- The runs of the list as they lie in memory: block br, K of them; run k: its pieces' block, how many, its end. -/
structure Runs (w : World) (br K : Nat) (b ln en : Nat → Nat) : Prop where
  pieces : ∀ k, k < K → w.cell? ⟨br, k * 2, none⟩ = some (.slice (some ⟨b k, 0, none⟩) (ln k) (ln k))
  ends : ∀ k, k < K → w.cell? ⟨br, k * 2 + 1, none⟩ = some (.int .i64 (en k))
theorem Runs.below {w w' : World} {br K : Nat} {b ln en : Nat → Nat} (h : Runs w br K b ln en) (hb : Below w.heap.size w w') : Runs w' br K b ln en :=
  ⟨fun k hk => (hb.cell (by exact cell_lt (h.pieces k hk))).trans (h.pieces k hk), fun k hk => (hb.cell (by exact cell_lt (h.ends k hk))).trans (h.ends k hk)⟩
set_option maxRecDepth 100000 in
theorem runOf_any (br K cap k i : Nat) (nn : Int) (b ln en : Nat → Nat) (w : World) (hR : Runs w br K b ln en) (hK : K ≤ 2000000) (hkK : k < K) (h1 : ∀ r, r < k → en r ≤ i) (h2 : ∀ r, k ≤ r → r < K → i < en r) :
    Calls Yba.prog 23 #[.agg #[.slice (some ⟨br, 0, none⟩) K cap, .int .i64 nn], .int .i64 i] w fun e w' => e = .returned (.pointer (some ⟨br, k * 2, none⟩)) ∧ Below w.heap.size w w' := by
  have hb2 : Below w.heap.size w ((w.alloc (.cells #[.slice (some ⟨br, 0, none⟩) K cap, .int .i64 nn] 42)).alloc (.cells #[.int .i64 i] 3)) := ((Below.refl _ _).alloc (Nat.le_refl _) _).alloc (by simp) _
  have hR2 := hR.below hb2
  have c1 : ((w.alloc (.cells #[.slice (some ⟨br, 0, none⟩) K cap, .int .i64 nn] 42)).alloc (.cells #[.int .i64 i] 3)).cell? ⟨w.heap.size, 0, none⟩ = some (.slice (some ⟨br, 0, none⟩) K cap) := ((Blk.new w #[.slice (some ⟨br, 0, none⟩) K cap, .int .i64 nn] 42).alloc _).cell (by rfl)
  have c2 : ((w.alloc (.cells #[.slice (some ⟨br, 0, none⟩) K cap, .int .i64 nn] 42)).alloc (.cells #[.int .i64 i] 3)).cell? ⟨w.heap.size + 1, 0, none⟩ = some (.int .i64 i) := by
    have := Blk.new (w.alloc (.cells #[.slice (some ⟨br, 0, none⟩) K cap, .int .i64 nn] 42)) #[.int .i64 i] 3
    simp only [World.size_alloc] at this
    exact this.cell (by rfl)
  have hs : ∀ m0, Calls Yba.prog 26 #[.int .i64 K, .func (.func 27) #[] #[ptrV w.heap.size, ptrV (w.heap.size + 1)]] (((w.alloc (.cells #[.slice (some ⟨br, 0, none⟩) K cap, .int .i64 nn] 42)).alloc (.cells #[.int .i64 i] 3)).drewN m0) fun e' w' => e' = .returned (.int .i64 k) ∧ ∃ m, w' = (((w.alloc (.cells #[.slice (some ⟨br, 0, none⟩) K cap, .int .i64 nn] 42)).alloc (.cells #[.int .i64 i] 3)).drewN m0).drewN m := fun m0 =>
    search_at K k (fun r => decide (i < en r)) w.heap.size (w.heap.size + 1) _ hK (by omega) (fun r hr => by simpa using h1 r hr) (fun r hr hr2 => by simpa using h2 r hr hr2) (fun m r hr => (cl_any r K cap i (en r) w.heap.size (w.heap.size + 1) br ((((w.alloc (.cells #[.slice (some ⟨br, 0, none⟩) K cap, .int .i64 nn] 42)).alloc (.cells #[.int .i64 i] 3)).drewN m0).drewN m) hK hr c1 c2 (hR2.ends r hr)).mono fun e w' ⟨h, m', h'⟩ => ⟨h, m + m', by rw [h', drewN_add]⟩)
  have HS : Hid (∀ m0, Calls Yba.prog 26 #[.int .i64 K, .func (.func 27) #[] #[ptrV w.heap.size, ptrV (w.heap.size + 1)]] (((w.alloc (.cells #[.slice (some ⟨br, 0, none⟩) K cap, .int .i64 nn] 42)).alloc (.cells #[.int .i64 i] 3)).drewN m0) fun e' w' => e' = .returned (.int .i64 k) ∧ ∃ m, w' = (((w.alloc (.cells #[.slice (some ⟨br, 0, none⟩) K cap, .int .i64 nn] 42)).alloc (.cells #[.int .i64 i] 3)).drewN m0).drewN m) := hs
  have HB : Hid (Below w.heap.size w ((w.alloc (.cells #[.slice (some ⟨br, 0, none⟩) K cap, .int .i64 nn] 42)).alloc (.cells #[.int .i64 i] 3))) := hb2
  clear hs hR hR2 h1 h2 hb2 c1 c2
  go_enter Yba.func23, Yba.ntmps23
  go_wp2_with fail
  go_quiet ((go_at_call 26; exact Calls.quiet_of (HS.out _)))
  go_wp2_with fail
  go_ret
  exact ⟨rfl, belowN HB.out _⟩
set_option maxRecDepth 100000 in
theorem find_any (br K cap k i : Nat) (nn : Int) (b ln en : Nat → Nat) (w : World) (hR : Runs w br K b ln en) (hK : K ≤ 2000000) (hkK : k < K) (h1 : ∀ r, r < k → en r ≤ i) (h2 : ∀ r, k ≤ r → r < K → i < en r) (h3 : ln k ≤ en k) (h4 : en k ≤ i + ln k) (h5 : en k ≤ 2000000) :
    Calls Yba.prog 20 #[.agg #[.slice (some ⟨br, 0, none⟩) K cap, .int .i64 nn], .int .i64 i] w fun e w' => e = .returned (.pointer (some ⟨b k, (i - (en k - ln k)) * 3, none⟩)) ∧ Below w.heap.size w w' := by
  have hb2 : Below w.heap.size w (w.alloc (.cells #[.slice (some ⟨br, 0, none⟩) K cap, .int .i64 nn] 42)) := (Below.refl _ _).alloc (Nat.le_refl _) _
  have hs := runOf_any br K cap k i nn b ln en _ (hR.below hb2) hK hkK h1 h2
  have HS : Hid (Calls Yba.prog 23 #[.agg #[.slice (some ⟨br, 0, none⟩) K cap, .int .i64 nn], .int .i64 i] (w.alloc (.cells #[.slice (some ⟨br, 0, none⟩) K cap, .int .i64 nn] 42)) fun e w' => e = .returned (.pointer (some ⟨br, k * 2, none⟩)) ∧ Below (w.alloc (.cells #[.slice (some ⟨br, 0, none⟩) K cap, .int .i64 nn] 42)).heap.size (w.alloc (.cells #[.slice (some ⟨br, 0, none⟩) K cap, .int .i64 nn] 42)) w') := hs
  have HR : Hid (Runs (w.alloc (.cells #[.slice (some ⟨br, 0, none⟩) K cap, .int .i64 nn] 42)) br K b ln en) := hR.below hb2
  have HB : Hid (Below w.heap.size w (w.alloc (.cells #[.slice (some ⟨br, 0, none⟩) K cap, .int .i64 nn] 42))) := hb2
  have h6 := h2 k (Nat.le_refl _) hkK
  clear hs hR h1 h2 hb2
  go_enter Yba.func20, Yba.ntmps20
  go_wp2_with fail
  refine HS.out.mono ?_
  rintro e w1 ⟨rfl, hbel⟩
  have hr := HR.out.below hbel
  have d1 := hr.pieces k hkK
  have d2 := hr.ends k hkK
  have HB2 : Hid (Below w.heap.size w w1) := HB.out.trans (hbel.mono (by simp))
  clear hr hbel
  generalize hek : en k = E at *
  generalize hbk : b k = bk at *
  generalize hnk : ln k = N at *
  have HE : Hid (en k = E ∧ b k = bk ∧ ln k = N) := ⟨hek, hbk, hnk⟩
  have hidx : ((i : Int) - ((E : Int) - (N : Int))) = ((i - (E - N) : Nat) : Int) := by omega
  have hlt : i - (E - N) < N := by omega
  clear hbk hek hnk
  go_wp2_with fail
  go_quiet (fail)
  go_wp2_with fail
  go_ret
  obtain ⟨e1, e2, e3⟩ := HE.out
  exact ⟨by rw [e1, e2, e3]; rfl, belowN HB2.out _⟩
set_option maxRecDepth 100000 in
theorem at_any (br K cap k i : Nat) (nn : Int) (b ln en : Nat → Nat) (w : World) (hR : Runs w br K b ln en) (hK : K ≤ 2000000) (hkK : k < K) (h1 : ∀ r, r < k → en r ≤ i) (h2 : ∀ r, k ≤ r → r < K → i < en r) (h3 : ln k ≤ en k) (h4 : en k ≤ i + ln k) (h5 : en k ≤ 2000000) (h0 : en 0 = ln 0) :
    Calls Yba.prog 10 #[.agg #[.slice (some ⟨br, 0, none⟩) K cap, .int .i64 nn], .int .i64 i] w fun e w' => e = .returned (.pointer (some ⟨b k, (i - (en k - ln k)) * 3, none⟩)) ∧ Below w.heap.size w w' := by
  have hb2 : Below w.heap.size w (w.alloc (.cells #[.slice (some ⟨br, 0, none⟩) K cap, .int .i64 nn] 42)) := (Below.refl _ _).alloc (Nat.le_refl _) _
  have HB : Hid (Below w.heap.size w (w.alloc (.cells #[.slice (some ⟨br, 0, none⟩) K cap, .int .i64 nn] 42))) := hb2
  by_cases hK1 : K = 1
  · subst hK1
    obtain rfl : k = 0 := by omega
    have hr := hR.below hb2
    have d1 := hr.pieces 0 (by omega)
    simp only [Nat.zero_mul] at d1
    have h6 := h2 0 (Nat.le_refl _) (by omega)
    rw [h0] at h6 ⊢
    generalize b 0 = b0 at *
    generalize ln 0 = N at *
    clear hr hR h1 h2 h3 h4 h0 hb2
    go_enter Yba.func10, Yba.ntmps10
    go_wp2_with fail
    go_ret
    exact ⟨by simp, HB.out⟩
  · have hs := find_any br K cap k i nn b ln en _ (hR.below hb2) hK hkK h1 h2 h3 h4 h5
    have HS : Hid (Calls Yba.prog 20 #[.agg #[.slice (some ⟨br, 0, none⟩) K cap, .int .i64 nn], .int .i64 i] (w.alloc (.cells #[.slice (some ⟨br, 0, none⟩) K cap, .int .i64 nn] 42)) fun e w' => e = .returned (.pointer (some ⟨b k, (i - (en k - ln k)) * 3, none⟩)) ∧ Below (w.alloc (.cells #[.slice (some ⟨br, 0, none⟩) K cap, .int .i64 nn] 42)).heap.size (w.alloc (.cells #[.slice (some ⟨br, 0, none⟩) K cap, .int .i64 nn] 42)) w') := hs
    have q : ((K : Int) == 1) = false := by simp; omega
    clear hs hR h1 h2 h3 h4 h0 hb2 hK1 h5
    go_enter Yba.func10, Yba.ntmps10
    go_wp2_with fail
    refine HS.out.mono ?_
    rintro e w1 ⟨rfl, hbel⟩
    go_wp2_with fail
    go_ret
    exact ⟨rfl, HB.out.trans (hbel.mono (by simp))⟩
end Go.Proofs.Ybulkdkos
