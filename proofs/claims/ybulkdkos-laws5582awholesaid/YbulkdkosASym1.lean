/-
  LawS5582AWhole: slices.symMergeCmpFunc where one side holds one element, walked.
-/
import Derived.Test.YbulkdkosASwap
namespace Go.Proofs.Ybulkdkos
open Go.RowKit Go.Sort Go.Proofs
set_option linter.unusedVariables false
theorem lt_left {c : Nat → Nat → Int} (O : Ord c) {x y z : Nat} (h : Prec c x y) (hy : c y z < 0) : c x z < 0 := by
  rcases h with h | ⟨h, _⟩
  · exact O.trans _ _ _ h hy
  · rw [O.congr x y z h]; exact hy
theorem lt_right {c : Nat → Nat → Int} (O : Ord c) {x y z : Nat} (h : Prec c y z) (hx : c x y < 0) : c x z < 0 := by
  rcases h with h | ⟨h, _⟩
  · exact O.trans _ _ _ hx h
  · have a := O.congr y z x h
    have b := O.anti x y
    have e := O.anti x z
    omega
/-- One step of the shift to the right. -/
theorem Rot.right {d dk : Array Nat} {a k : Nat} (h : Rot d dk a (a + 1) (k + 1)) (h1 : a ≤ k) (h2 : k + 1 < d.size) : Rot d (swp dk k (k + 1)) a (a + 1) (k + 2) := by
  have hg := swp_get dk (show k < dk.size by rw [h.size]; omega) (show k + 1 < dk.size by rw [h.size]; omega)
  have e1 : dk[k]! = d[a]! := by rw [h.hi k (by omega) (by omega), show k - (k + 1 - (a + 1)) = a by omega]
  have e2 : dk[k + 1]! = d[k + 1]! := h.out _ (by omega)
  refine ⟨by rw [size_swp, h.size], fun t t1 t2 => ?_, fun t t1 t2 => ?_, fun t ht => ?_⟩
  · rw [hg]
    by_cases p : t = k
    · subst p
      rw [if_neg (by omega), if_pos rfl, e2, show a + 1 - a = 1 by omega]
    · rw [if_neg (by omega), if_neg p, h.lo t t1 (by omega)]
  · obtain rfl : t = k + 1 := by omega
    rw [hg, if_pos rfl, e1, show k + 1 - (k + 2 - (a + 1)) = a by omega]
  · rw [hg, if_neg (by omega), if_neg (by omega), h.out t (by omega)]
/-- .. and to the left. -/
theorem Rot.left {d dk : Array Nat} {m k : Nat} (h : Rot d dk (k + 1) m (m + 1)) (h1 : k + 1 ≤ m) (h2 : m < d.size) : Rot d (swp dk (k + 1) k) k m (m + 1) := by
  have hg := swp_get dk (show k + 1 < dk.size by rw [h.size]; omega) (show k < dk.size by rw [h.size]; omega)
  have e1 : dk[k + 1]! = d[m]! := by rw [h.lo (k + 1) (by omega) (by omega), show k + 1 + (m - (k + 1)) = m by omega]
  have e2 : dk[k]! = d[k]! := h.out _ (by omega)
  refine ⟨by rw [size_swp, h.size], fun t t1 t2 => ?_, fun t t1 t2 => ?_, fun t ht => ?_⟩
  · obtain rfl : t = k := by omega
    rw [hg, if_pos rfl, e1, show t + (m - t) = m by omega]
  · rw [hg]
    by_cases p : t = k + 1
    · subst p
      rw [if_neg (by omega), if_pos rfl, e2, show k + 1 - (m + 1 - m) = k by omega]
    · rw [if_neg (by omega), if_neg p, h.hi t (by omega) (by omega)]
  · rw [hg, if_neg (by omega), if_neg (by omega), h.out t (by omega)]
abbrev ptrV (b : Nat) : Value := .pointer (some ⟨b, 0, none⟩)
abbrev cmpV (bc : Nat) : Value := .func (.func 16) #[] #[ptrV bc]
/-- The test 'cmp(data[i], data[j]) < 0': what a walk wants at it. -/
structure Cmp2 (E : Nat → Key) (c : Nat → Nat → Int) (W0 : World) (g bc : Nat) (d : Array Nat) (w : World) (i j : Nat) : Prop where
  a0 : ∀ n os, (grow (w.drewN n) os).cell? ⟨g, i * 4, none⟩ = some (.int .u8 (E d[i]!).k)
  a1 : ∀ n os, (grow (w.drewN n) os).cell? ⟨g, i * 4 + 1, none⟩ = some (.int .u64 (E d[i]!).s)
  a2 : ∀ n os, (grow (w.drewN n) os).cell? ⟨g, i * 4 + 2, none⟩ = some (.slice (E d[i]!).sa (E d[i]!).sl (E d[i]!).sc)
  a3 : ∀ n os, (grow (w.drewN n) os).cell? ⟨g, i * 4 + 3, none⟩ = some (.slice (E d[i]!).va (E d[i]!).vl (E d[i]!).vc)
  b0 : ∀ n os, (grow (w.drewN n) os).cell? ⟨g, j * 4, none⟩ = some (.int .u8 (E d[j]!).k)
  b1 : ∀ n os, (grow (w.drewN n) os).cell? ⟨g, j * 4 + 1, none⟩ = some (.int .u64 (E d[j]!).s)
  b2 : ∀ n os, (grow (w.drewN n) os).cell? ⟨g, j * 4 + 2, none⟩ = some (.slice (E d[j]!).sa (E d[j]!).sl (E d[j]!).sc)
  b3 : ∀ n os, (grow (w.drewN n) os).cell? ⟨g, j * 4 + 3, none⟩ = some (.slice (E d[j]!).va (E d[j]!).vl (E d[j]!).vc)
  call : ∀ n os, Calls Yba.prog 16 #[.agg #[.int .u8 (E d[i]!).k, .int .u64 (E d[i]!).s, .slice (E d[i]!).sa (E d[i]!).sl (E d[i]!).sc, .slice (E d[i]!).va (E d[i]!).vl (E d[i]!).vc], .agg #[.int .u8 (E d[j]!).k, .int .u64 (E d[j]!).s, .slice (E d[j]!).sa (E d[j]!).sl (E d[j]!).sc, .slice (E d[j]!).va (E d[j]!).vl (E d[j]!).vc], ptrV bc] (grow (w.drewN n) os)
    fun e w' => e = .returned (.int .i64 (c d[i]! d[j]!)) ∧ ∃ q os', w' = grow ((grow (w.drewN n) os).drewN q) os'
theorem cmp2_of {E : Nat → Key} {c : Nat → Nat → Int} {W0 : World} {g bc : Nat} {d0 d : Array Nat} {w : World} (hH : HoldsK (encE E) 4 W0 g 0 d0) (hg : g < W0.heap.size) (hs : d.size = d0.size) (hC : CmpLays Yba.prog 16 #[ptrV bc] (encE E) 4 c g 0 d0.size W0) (hS : SWK (encE E) 4 W0 g 0 d w) {i j : Nat} (hi : i < d.size) (hj : j < d.size) : Cmp2 E c W0 g bc d w i j := by
  have A := fun n os => at4_of ((hS.grown n os).holds hg hH hs) hi
  have B := fun n os => at4_of ((hS.grown n os).holds hg hH hs) hj
  exact ⟨fun n os => (A n os).c0, fun n os => (A n os).c1, fun n os => (A n os).c2, fun n os => (A n os).c3, fun n os => (B n os).c0, fun n os => (B n os).c1, fun n os => (B n os).c2, fun n os => (B n os).c3, fun n os => hS.cmp hC hs _ _ n os⟩
set_option maxRecDepth 100000 in
set_option maxHeartbeats 1000000 in
/-- One on the left. -/
theorem sym_left (E : Nat → Key) (c : Nat → Nat → Int) (O : Ord c) (g n cap a m b bc : Nat) (W0 : World) (d0 d : Array Nat) (w : World) (hH : HoldsK (encE E) 4 W0 g 0 d0) (hg : g < W0.heap.size) (hC : CmpLays Yba.prog 16 #[ptrV bc] (encE E) 4 c g 0 d0.size W0) (hn : d.size = n) (hs : d.size = d0.size) (hS : SWK (encE E) 4 W0 g 0 d w) (hsz : n ≤ 1000000) (hm1 : a < m) (hm2 : m ≤ a + 1) (h2 : m < b) (h3 : b ≤ n) (hP : Pre c d a m b) :
    Calls Yba.prog 25 #[.slice (some ⟨g, 0, none⟩) n cap, .int .i64 a, .int .i64 m, .int .i64 b, cmpV bc] w fun e w' => e = .returned (.tuple #[]) ∧ ∃ d', SWK (encE E) 4 W0 g 0 d' w' ∧ Mg c d d' a b := by
  have mx := mixed
  have HH : Hid (HoldsK (encE E) 4 W0 g 0 d0) := hH
  have HC : Hid (CmpLays Yba.prog 16 #[ptrV bc] (encE E) 4 c g 0 d0.size W0) := hC
  have HS : Hid (SWK (encE E) 4 W0 g 0 d w) := hS
  have HP : Hid (Pre c d a m b) := hP
  clear hH hC hS hP
  have hcm : ((m : Int) - (a : Int) == 1) = true := by simp; omega
  go_enter Yba.func25, Yba.ntmps25
  go_wp2_with fail
  go_loopg [10, 11] (b - a) (fun g' vi vj wr => ∃ i j : Nat, j - i ≤ g' ∧ m ≤ i ∧ i ≤ j ∧ j ≤ b ∧ vi = .int .i64 i ∧ vj = .int .i64 j ∧ SWK (encE E) 4 W0 g 0 d wr ∧ (∀ t, m ≤ t → t < i → c d[t]! d[a]! < 0) ∧ (∀ t, j ≤ t → t < b → ¬ c d[t]! d[a]! < 0))
  case atStart => exact ⟨m, b, by omega, by omega, by omega, by omega, rfl, rfl, HS.out, fun t t1 t2 => absurd t2 (by omega), fun t t1 t2 => absurd t2 (by omega)⟩
  case round =>
    obtain ⟨i, j, hij, hi, hle, hj, rfl, rfl, hSk, hlo, hhi⟩ := hrel
    have HSk : Hid (SWK (encE E) 4 W0 g 0 d wr) := hSk
    have HX : Hid ((∀ t, m ≤ t → t < i → c d[t]! d[a]! < 0) ∧ (∀ t, j ≤ t → t < b → ¬ c d[t]! d[a]! < 0)) := ⟨hlo, hhi⟩
    clear hSk hlo hhi
    by_cases hlt : i < j
    · obtain ⟨h, hh⟩ : ∃ h : Nat, h = (i + j) / 2 := ⟨_, rfl⟩
      have hh1 : i ≤ h ∧ h < j := by omega
      obtain ⟨hh2, hh3⟩ := hh1
      have hmid : ((i : Int) + (j : Int)) / 2 = (h : Int) := by omega
      have K := cmp2_of (E := E) (i := h) (j := a) HH.out hg hs HC.out HSk.out (by omega) (by omega)
      obtain ⟨a0, a1, a2, a3, b0, b1, b2, b3, call⟩ := K
      clear hh
      obtain ⟨z, hz⟩ : ∃ z, c d[h]! d[a]! = z := ⟨_, rfl⟩
      rw [hz] at call
      generalize E d[h]! = x at *
      generalize E d[a]! = y at *
      have HZ : Hid (c d[h]! d[a]! = z) := hz
      clear hz
      have hb1 : (h : Int) < (n : Int) := by omega
      have hb2 : (a : Int) < (n : Int) := by omega
      go_wp2_with fail
      clear hmid
      by_cases hc : z < 0
      · have hcb : decide (z < 0) = true := by simpa using hc
        go_quiet_grown (first | (go_at_call 16; refine Calls.grown_of (call _ _)))
        clear a0 a1 a2 a3 b0 b1 b2 b3 call
        go_wp2_with fail
        go_roundg (j - (h + 1))
        case measure => omega
        case rel =>
          refine ⟨h + 1, j, by omega, by omega, by omega, hj, by go_num, rfl, HSk.out.grown nq osq, fun t t1 t2 => ?_, HX.out.2⟩
          by_cases p : t = h
          · subst p; rw [HZ.out]; exact hc
          · exact lt_left O (HP.out.r t h t1 (by omega) (by omega)) (by rw [HZ.out]; exact hc)
      · have hcb : decide (z < 0) = false := by simpa using hc
        go_quiet_grown (first | (go_at_call 16; refine Calls.grown_of (call _ _)))
        clear a0 a1 a2 a3 b0 b1 b2 b3 call
        go_wp2_with fail
        go_roundg (h - i)
        case measure => omega
        case rel =>
          refine ⟨i, h, by omega, hi, by omega, by omega, rfl, rfl, HSk.out.grown nq osq, HX.out.1, fun t t1 t2 => ?_⟩
          by_cases p : t = h
          · subst p; rw [HZ.out]; omega
          · refine Int.not_lt.1 fun hlt' => ?_
            have := lt_left O (HP.out.r h t (by omega) (by omega) t2) hlt'
            rw [HZ.out] at this
            omega
    · obtain rfl : i = j := by omega
      go_wp2_with fail
      go_loopg [13] (b - a) (fun g' vk wx => ∃ k : Nat, i - 1 - k ≤ g' ∧ a ≤ k ∧ k ≤ i - 1 ∧ vk = .int .i64 k ∧ ∃ dk, SWK (encE E) 4 W0 g 0 dk wx ∧ Rot d dk a (a + 1) (k + 1))
      case atStart => exact ⟨a, by omega, by omega, by omega, rfl, d, HSk.out, Rot.triv d (by omega) (by omega) (by omega)⟩
      case round =>
        obtain ⟨k, hk1, hk2, hk3, rfl, dk, hSd, hR⟩ := hrel
        have HR : Hid (Rot d dk a (a + 1) (k + 1)) := hR
        have hdk : dk.size = d.size := hR.size
        clear hR
        by_cases hlt : k < i - 1
        · have hltz : (k : Int) < (i : Int) - 1 := by omega
          have hHk := hSd.holds hg HH.out (by omega)
          have A1 := at4_of hHk (i := k) (by omega)
          have A2 := at4_of hHk (i := k + 1) (by omega)
          have hsw := (hSd.swap (encE_len E) hg k (k + 1) (by omega) (by omega)).drew
          simp only [encE, Key.cells, World.setCells, Nat.zero_add] at hsw
          generalize hdk' : swp dk k (k + 1) = dk' at *
          have HD : Hid (swp dk k (k + 1) = dk') := hdk'
          clear hdk'
          generalize E dk[k]! = x at *
          generalize E dk[k + 1]! = y at *
          obtain ⟨x0, x1, x2, x3, x4, x5, x6, x7⟩ := x
          obtain ⟨y0, y1, y2, y3, y4, y5, y6, y7⟩ := y
          obtain ⟨a0, a1, a2, a3, b0, b1, b2, b3⟩ := A1
          obtain ⟨c0, c1, c2, c3, e0, e1, e2, e3⟩ := A2
          simp only at a0 a1 a2 a3 c0 c1 c2 c3 hsw
          have HSW : Hid _ := hsw
          clear hsw hHk hSd
          go_wp2_with fail
          go_region
          all_goals go_wp2_with fail
          go_roundg (i - 1 - (k + 1))
          case measure => omega
          case rel => exact ⟨k + 1, by omega, by omega, by omega, by go_num, dk', HSW.out, by rw [← HD.out]; exact HR.out.right hk2 (by omega)⟩
        · obtain rfl : k = i - 1 := by omega
          have hltz : ¬ ((i - 1 : Nat) : Int) < (i : Int) - 1 := by omega
          go_wp2_with fail
          (try simp only [Exit.inBlock, Exit.then])
          refine bodyPost_ret (results_none rfl _ _ _) rfl ?_
          have hR := HR.out
          rw [show i - 1 + 1 = i by omega] at hR
          obtain rfl : m = a + 1 := by omega
          exact ⟨rfl, dk, hSd, merge_one_left O HP.out hi hj HX.out.1 (fun t t1 t2 => by have := HX.out.2 t t1 t2; omega) hR⟩
set_option maxRecDepth 100000 in
set_option maxHeartbeats 1000000 in
/-- One on the right. -/
theorem sym_right (E : Nat → Key) (c : Nat → Nat → Int) (O : Ord c) (g n cap a m b bc : Nat) (W0 : World) (d0 d : Array Nat) (w : World) (hH : HoldsK (encE E) 4 W0 g 0 d0) (hg : g < W0.heap.size) (hC : CmpLays Yba.prog 16 #[ptrV bc] (encE E) 4 c g 0 d0.size W0) (hn : d.size = n) (hs : d.size = d0.size) (hS : SWK (encE E) 4 W0 g 0 d w) (hsz : n ≤ 1000000) (hm1 : m < b) (hm2 : b ≤ m + 1) (h2 : a + 1 < m) (h3 : b ≤ n) (hP : Pre c d a m b) :
    Calls Yba.prog 25 #[.slice (some ⟨g, 0, none⟩) n cap, .int .i64 a, .int .i64 m, .int .i64 b, cmpV bc] w fun e w' => e = .returned (.tuple #[]) ∧ ∃ d', SWK (encE E) 4 W0 g 0 d' w' ∧ Mg c d d' a b := by
  have mx := mixed
  have HH : Hid (HoldsK (encE E) 4 W0 g 0 d0) := hH
  have HC : Hid (CmpLays Yba.prog 16 #[ptrV bc] (encE E) 4 c g 0 d0.size W0) := hC
  have HS : Hid (SWK (encE E) 4 W0 g 0 d w) := hS
  have HP : Hid (Pre c d a m b) := hP
  clear hH hC hS hP
  have hcm0 : ((m : Int) - (a : Int) == 1) = false := by simp; omega
  have hcm : ((b : Int) - (m : Int) == 1) = true := by simp; omega
  go_enter Yba.func25, Yba.ntmps25
  go_wp2_with fail
  go_loopg [14, 15] (m - a) (fun g' vi vj wr => ∃ i j : Nat, j - i ≤ g' ∧ a ≤ i ∧ i ≤ j ∧ j ≤ m ∧ vi = .int .i64 i ∧ vj = .int .i64 j ∧ SWK (encE E) 4 W0 g 0 d wr ∧ (∀ t, a ≤ t → t < i → ¬ c d[m]! d[t]! < 0) ∧ (∀ t, j ≤ t → t < m → c d[m]! d[t]! < 0))
  case atStart => exact ⟨a, m, by omega, by omega, by omega, by omega, rfl, rfl, HS.out, fun t t1 t2 => absurd t2 (by omega), fun t t1 t2 => absurd t2 (by omega)⟩
  case round =>
    obtain ⟨i, j, hij, hi, hle, hj, rfl, rfl, hSk, hlo, hhi⟩ := hrel
    have HSk : Hid (SWK (encE E) 4 W0 g 0 d wr) := hSk
    have HX : Hid ((∀ t, a ≤ t → t < i → ¬ c d[m]! d[t]! < 0) ∧ (∀ t, j ≤ t → t < m → c d[m]! d[t]! < 0)) := ⟨hlo, hhi⟩
    clear hSk hlo hhi
    by_cases hlt : i < j
    · obtain ⟨h, hh⟩ : ∃ h : Nat, h = (i + j) / 2 := ⟨_, rfl⟩
      have hh1 : i ≤ h ∧ h < j := by omega
      obtain ⟨hh2, hh3⟩ := hh1
      have hmid : ((i : Int) + (j : Int)) / 2 = (h : Int) := by omega
      have K := cmp2_of (E := E) (i := m) (j := h) HH.out hg hs HC.out HSk.out (by omega) (by omega)
      obtain ⟨a0, a1, a2, a3, b0, b1, b2, b3, call⟩ := K
      clear hh
      obtain ⟨z, hz⟩ : ∃ z, c d[m]! d[h]! = z := ⟨_, rfl⟩
      rw [hz] at call
      generalize E d[m]! = x at *
      generalize E d[h]! = y at *
      have HZ : Hid (c d[m]! d[h]! = z) := hz
      clear hz
      have hb1 : (h : Int) < (n : Int) := by omega
      have hb2 : (m : Int) < (n : Int) := by omega
      go_wp2_with fail
      clear hmid
      by_cases hc : z < 0
      · have hcb : decide (z < 0) = true := by simpa using hc
        go_quiet_grown (first | (go_at_call 16; refine Calls.grown_of (call _ _)))
        clear a0 a1 a2 a3 b0 b1 b2 b3 call
        go_wp2_with fail
        go_roundg (h - i)
        case measure => omega
        case rel =>
          refine ⟨i, h, by omega, hi, by omega, by omega, rfl, rfl, HSk.out.grown nq osq, (fun t t1 t2 => by have := HX.out.1 t t1 t2; omega), fun t t1 t2 => ?_⟩
          by_cases p : t = h
          · subst p; rw [HZ.out]; omega
          · exact lt_right O (HP.out.l h t (by omega) (by omega) t2) (by rw [HZ.out]; omega)
      · have hcb : decide (z < 0) = false := by simpa using hc
        go_quiet_grown (first | (go_at_call 16; refine Calls.grown_of (call _ _)))
        clear a0 a1 a2 a3 b0 b1 b2 b3 call
        go_wp2_with fail
        go_roundg (j - (h + 1))
        case measure => omega
        case rel =>
          refine ⟨h + 1, j, by omega, by omega, by omega, hj, by go_num, rfl, HSk.out.grown nq osq, fun t t1 t2 => ?_, HX.out.2⟩
          by_cases p : t = h
          · subst p; rw [HZ.out]; omega
          · refine Int.not_lt.1 fun hlt' => ?_
            have := lt_right O (HP.out.l t h t1 (by omega) (by omega)) hlt'
            rw [HZ.out] at this
            omega
    · obtain rfl : i = j := by omega
      go_wp2_with fail
      go_loopg [17] (m - a) (fun g' vk wx => ∃ k : Nat, k - i ≤ g' ∧ i ≤ k ∧ k ≤ m ∧ vk = .int .i64 k ∧ ∃ dk, SWK (encE E) 4 W0 g 0 dk wx ∧ Rot d dk k m (m + 1))
      case atStart => exact ⟨m, by omega, by omega, by omega, rfl, d, HSk.out, Rot.triv d (by omega) (by omega) (by omega)⟩
      case round =>
        obtain ⟨k, hk1, hk2, hk3, rfl, dk, hSd, hR⟩ := hrel
        have HR : Hid (Rot d dk k m (m + 1)) := hR
        have hdk : dk.size = d.size := hR.size
        clear hR
        by_cases hlt : i < k
        · obtain ⟨k, rfl⟩ : ∃ k', k = k' + 1 := ⟨k - 1, by omega⟩
          have hHk := hSd.holds hg HH.out (by omega)
          have A1 := at4_of hHk (i := k + 1) (by omega)
          have A2 := at4_of hHk (i := k) (by omega)
          have hsw := (hSd.swap (encE_len E) hg (k + 1) k (by omega) (by omega)).drew
          simp only [encE, Key.cells, World.setCells, Nat.zero_add] at hsw
          generalize hdk' : swp dk (k + 1) k = dk' at *
          have HD : Hid (swp dk (k + 1) k = dk') := hdk'
          clear hdk'
          generalize E dk[k + 1]! = x at *
          generalize E dk[k]! = y at *
          obtain ⟨x0, x1, x2, x3, x4, x5, x6, x7⟩ := x
          obtain ⟨y0, y1, y2, y3, y4, y5, y6, y7⟩ := y
          obtain ⟨a0, a1, a2, a3, b0, b1, b2, b3⟩ := A1
          obtain ⟨c0, c1, c2, c3, e0, e1, e2, e3⟩ := A2
          simp only at a0 a1 a2 a3 c0 c1 c2 c3 hsw
          have HSW : Hid _ := hsw
          clear hsw hHk hSd
          go_wp2_with fail
          go_region
          all_goals go_wp2_with fail
          go_roundg (k - i)
          case measure => omega
          case rel => exact ⟨k, by omega, by omega, by omega, by go_num, dk', HSW.out, by rw [← HD.out]; exact HR.out.left hk3 (by omega)⟩
        · obtain rfl : k = i := by omega
          go_wp2_with fail
          (try simp only [Exit.inBlock, Exit.then])
          refine bodyPost_ret (results_none rfl _ _ _) rfl ?_
          obtain rfl : b = m + 1 := by omega
          exact ⟨rfl, dk, hSd, merge_one_right O HP.out hi hk3 (fun t t1 t2 => by have := HX.out.1 t t1 t2; omega) HX.out.2 HR.out⟩
end Go.Proofs.Ybulkdkos
