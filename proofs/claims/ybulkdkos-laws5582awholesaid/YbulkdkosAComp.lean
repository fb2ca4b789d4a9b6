/-
  LawS5582AWhole: slices.CompactFunc, walked; what it leaves.
-/
import Derived.Test.YbulkdkosACmp
import Derived.Lib.SliceRun
namespace Go.Proofs.Ybulkdkos
open Go.RowKit Go.Sort Go.Proofs Go.Lib
set_option linter.unusedVariables false
set_option linter.unusedSimpArgs false
theorem SWK.setMany {E : Nat → Key} {w0 W : World} {g : Nat} {dk dk' : Array Nat} (h : SWK (encE E) 4 w0 g 0 dk W) (hg : g < w0.heap.size) (s : Nat) (vs : List Value) (hs : s + vs.length ≤ dk.size * 4) (e : Sort.setMany (flatK (encE E) 4 dk) s vs = flatK (encE E) 4 dk') : SWK (encE E) 4 w0 g 0 dk' (W.setCells g s vs) := by
  obtain ⟨n, os, rfl⟩ := h
  refine ⟨n, os, ?_⟩
  unfold sortWorldK putRowK
  rw [setCells_grow os g vs s _ (by rw [show (putRow id (Sort.ahead w0 n) g 0 (flatK (encE E) 4 dk)).heap.size = w0.heap.size by simp]; exact hg)]
  congr 1
  have := setCells_putRow (Sort.ahead w0 n) g 0 vs s (flatK (encE E) 4 dk) (by rw [size_flatK]; exact hs)
  rw [Nat.zero_add] at this
  rw [this, e]
theorem setMany_set (E : Nat → Key) (dk : Array Nat) (i y : Nat) (hi : i < dk.size) : Sort.setMany (flatK (encE E) 4 dk) (i * 4) (encE E y) = flatK (encE E) 4 (dk.setIfInBounds i y) := by
  refine ext_get! (by simp) fun t ht => ?_
  have ht' : t < dk.size * 4 := by simpa using ht
  rw [get_setMany _ _ _ t (by simpa using ht'), get_flatK _ _ _ t ht', get_flatK _ _ _ t (by simpa using ht'), encE_len]
  have hd : t / 4 < dk.size := by omega
  by_cases p : i * 4 ≤ t ∧ t < i * 4 + 4
  · rw [if_pos p]
    have e : t / 4 = i := by omega
    rw [e, show t - i * 4 = t % 4 by omega]
    simp [hi]
  · rw [if_neg p]
    have e : ¬ i = t / 4 := by omega
    simp [Array.getElem!_eq_getD, Array.getD, Array.getElem_setIfInBounds, hd, e]
/-- The zero key's cells, n times over. -/
def zeros (n : Nat) : List Value := (List.range (n * 4)).map fun j => [Value.int .u8 0, .int .u64 0, .slice none 0 0, .slice none 0 0][j % 4]!
theorem zeros_len (n : Nat) : (zeros n).length = n * 4 := by simp [zeros]
def cutAt (dk : Array Nat) (kk zz : Nat) : Array Nat := (Array.range dk.size).map fun t => if t < kk then dk[t]! else zz
theorem size_cutAt (dk : Array Nat) (kk zz : Nat) : (cutAt dk kk zz).size = dk.size := by simp [cutAt]
theorem get_cutAt (dk : Array Nat) (kk zz t : Nat) (h : t < dk.size) : (cutAt dk kk zz)[t]! = if t < kk then dk[t]! else zz := by simp [cutAt, h]
theorem setMany_zeros (E : Nat → Key) (dk : Array Nat) (kk zz : Nat) (hk : kk ≤ dk.size) (hz : E zz = ⟨0, 0, none, 0, 0, none, 0, 0⟩) : Sort.setMany (flatK (encE E) 4 dk) (kk * 4) (zeros (dk.size - kk)) = flatK (encE E) 4 (cutAt dk kk zz) := by
  refine ext_get! (by simp [size_cutAt]) fun t ht => ?_
  have ht' : t < dk.size * 4 := by simpa using ht
  rw [get_setMany _ _ _ t (by simpa using ht'), get_flatK _ _ _ t ht', get_flatK _ _ _ t (by rw [size_cutAt]; exact ht'), zeros_len]
  have hd : t / 4 < dk.size := by omega
  rw [get_cutAt _ _ _ _ hd]
  by_cases p : t / 4 < kk
  · rw [if_neg (by omega), if_pos p]
  · rw [if_pos (by omega), if_neg p]
    simp only [encE, hz, Key.cells]
    have hj : t - kk * 4 < (dk.size - kk) * 4 := by omega
    simp only [zeros]
    rw [show (t % 4) = ((t - kk * 4) % 4) by omega]
    simp [hj]
theorem run_clear4 (w : World) (b o n c : Nat) (hn : 0 < n) (ty : TypeId) (hc : ∀ j, j < n * 4 → (w.cell? ⟨b, o + j, none⟩).isSome = true) (hf : ∀ j, j < n * 4 → w.frozen? ⟨b, o + j, none⟩ = false) :
    (Builtin.clear_ #[24] ty #[.slice (some ⟨b, o, none⟩) n c]).run Yba.prog w = .ok (.tuple #[]) (w.setCells b o (zeros n)) := by
  have hzc : (Builtin.zeroCells (Value.agg #[.int .u8 0, .int .u64 0, .slice none 0 0, .slice none 0 0]).cells n).toList = zeros n := by
    simp [Builtin.zeroCells, zeros, Value.cells]
  have hst := run_storeCells_cells (P := Yba.prog) b o (zeros n) 0 w (by rw [zeros_len]; simpa using hc) (by rw [zeros_len]; simpa using hf) (by
    intro v hv
    simp only [zeros, List.mem_map] at hv
    obtain ⟨j, _, rfl⟩ := hv
    have : j % 4 = 0 ∨ j % 4 = 1 ∨ j % 4 = 2 ∨ j % 4 = 3 := by omega
    rcases this with h | h | h | h <;> rw [h] <;> rfl)
  simp only [Nat.add_zero] at hst
  obtain ⟨m, rfl⟩ : ∃ m, n = m + 1 := ⟨n - 1, by omega⟩
  simp [Builtin.clear_, run_underlying Yba.underlying24, Yba.zeroValue33, hzc, hst]
def keepB (S : Nat → List Int) (d : Array Nat) (j : Nat) : Bool := decide (j = 0 ∨ S d[j]! ≠ S d[j - 1]!)
def comp (S : Nat → List Int) (d : Array Nat) (m : Nat) : List Nat := ((List.range m).filter (keepB S d)).map (d[·]!)
theorem comp_succ (S : Nat → List Int) (d : Array Nat) (m : Nat) : comp S d (m + 1) = comp S d m ++ (if keepB S d m then [d[m]!] else []) := by
  unfold comp
  rw [List.range_succ, List.filter_append, List.map_append]
  congr 1
  by_cases h : keepB S d m = true
  · simp [h]
  · simp [h]
theorem comp_len (S : Nat → List Int) (d : Array Nat) (m : Nat) : (comp S d m).length ≤ m := by
  unfold comp
  rw [List.length_map]
  exact Nat.le_trans (List.length_filter_le _ _) (by simp)
theorem comp_all (S : Nat → List Int) (d : Array Nat) : ∀ m, (∀ j, j < m → keepB S d j = true) → comp S d m = (List.range m).map (d[·]!) := by
  intro m h
  unfold comp
  rw [List.filter_eq_self.2 (fun j hj => h j (List.mem_range.1 hj))]
/-- What slices.CompactFunc leaves of d. -/
structure CompOut (S : Nat → List Int) (d d' : Array Nat) (D L zz : Nat) : Prop where
  size : d'.size = L
  len : D = (comp S d L).length
  lo : ∀ t, t < D → d'[t]! = (comp S d L)[t]!
  hi : ∀ t, D ≤ t → t < L → d'[t]! = zz
theorem compOut_all {S : Nat → List Int} {d : Array Nat} {L : Nat} (zz : Nat) (hd : d.size = L) (h : ∀ j, j < L → keepB S d j = true) : CompOut S d d L L zz := by
  have hc := comp_all S d L h
  refine ⟨hd, by rw [hc]; simp, fun t ht => by rw [hc]; simp [ht], fun t h1 h2 => by omega⟩
/-- Inside the second loop: q is the place that is looked at next, k the number kept. -/
structure CompMid (S : Nat → List Int) (d dk : Array Nat) (k q : Nat) : Prop where
  size : dk.size = d.size
  len : k = (comp S d q).length
  kq : k + 1 ≤ q
  lo : ∀ t, t < k → dk[t]! = (comp S d q)[t]!
  hi : ∀ t, q ≤ t + 1 → dk[t]! = d[t]!
theorem CompMid.skip {S : Nat → List Int} {d dk : Array Nat} {k q : Nat} (h : CompMid S d dk k q) (hq : keepB S d q = false) : CompMid S d dk k (q + 1) := by
  have e : comp S d (q + 1) = comp S d q := by rw [comp_succ, hq]; simp
  exact ⟨h.size, by rw [e]; exact h.len, by have := h.kq; omega, fun t ht => by rw [e]; exact h.lo t ht, fun t ht => h.hi t (by omega)⟩
theorem CompMid.keep {S : Nat → List Int} {d dk : Array Nat} {k q : Nat} (h : CompMid S d dk k q) (hqs : q < d.size) (hq : keepB S d q = true) : CompMid S d (dk.setIfInBounds k d[q]!) (k + 1) (q + 1) := by
  have e : comp S d (q + 1) = comp S d q ++ [d[q]!] := by rw [comp_succ, hq]; simp
  have hl := h.len
  have hkq := h.kq
  refine ⟨by simp [h.size], by rw [e]; simp [← hl], by omega, fun t ht => ?_, fun t ht => ?_⟩
  · rw [e]
    by_cases p : t = k
    · subst p
      have h4 : t < dk.size := by rw [h.size]; omega
      have h5 : (dk.setIfInBounds t d[q]!)[t]! = d[q]! := by simp [h4]
      have h6 : (comp S d q ++ [d[q]!])[t]! = d[q]! := by
        rw [List.getElem!_eq_getElem?_getD, List.getElem?_append_right (by omega), show t - (comp S d q).length = 0 by omega]
        rfl
      rw [h5, h6]
    · have ht' : t < k := by omega
      have h1 : t < (comp S d q).length := by omega
      have h2 : ¬ k = t := fun e => p e.symm
      have h3 := h.lo t ht'
      have h4 : t < dk.size := by rw [h.size]; omega
      simp [Array.getElem!_eq_getD, Array.getD, h4, h2, List.getElem!_eq_getElem?_getD, List.getElem?_append_left h1] at h3 ⊢
      exact h3
  · have h2 : ¬ k = t := by omega
    have h3 := h.hi t (by omega)
    rw [← h3]
    simp [Array.getElem!_eq_getD, Array.getD]
    by_cases p : t < dk.size
    · simp [p, h2]
    · simp [p]
theorem CompMid.done {S : Nat → List Int} {d dk : Array Nat} {k L : Nat} (h : CompMid S d dk k L) (hL : d.size = L) (zz : Nat) : CompOut S d (cutAt dk k zz) k L zz := by
  have hs : dk.size = L := h.size.trans hL
  have hk := h.kq
  refine ⟨by rw [size_cutAt]; exact hs, h.len, fun t ht => ?_, fun t h1 h2 => ?_⟩
  · rw [get_cutAt _ _ _ _ (by omega), if_pos ht]; exact h.lo t ht
  · rw [get_cutAt _ _ _ _ (by omega), if_neg (by omega)]
/-- The first repetition is at k0. -/
theorem CompMid.start {S : Nat → List Int} {d : Array Nat} {k0 : Nat} (h0 : 1 ≤ k0) (h : ∀ j, j < k0 → keepB S d j = true) (hk : keepB S d k0 = false) : CompMid S d d k0 (k0 + 1) := by
  have hc := comp_all S d k0 h
  have e : comp S d (k0 + 1) = (List.range k0).map (d[·]!) := by rw [comp_succ, hk, hc]; simp
  exact ⟨rfl, by rw [e]; simp, Nat.le_refl _, fun t ht => by rw [e]; simp [ht], fun _ _ => rfl⟩
abbrev eqV (bc : Nat) : Value := .func (.func 18) #[] #[ptrV bc]
def EqLays (E : Nat → Key) (S : Nat → List Int) (g bc size : Nat) (W0 : World) : Prop :=
  ∀ (m : Nat) (os : Array Obj) (dk : Array Nat), dk.size = size → ∀ x y : Nat, Calls Yba.prog 18 #[.agg (encE E x).toArray, .agg (encE E y).toArray, ptrV bc] (sortWorldK (encE E) 4 W0 g 0 m dk os) fun e w' => e = .returned (.bool (decide (S x = S y))) ∧ ∃ q os', w' = grow ((sortWorldK (encE E) 4 W0 g 0 m dk os).drewN q) os'
structure Eq2 (E : Nat → Key) (S : Nat → List Int) (W0 : World) (g bc : Nat) (d : Array Nat) (w : World) (i j : Nat) : Prop where
  a : ∀ n os, At4 (grow (w.drewN n) os) g i (E d[i]!)
  b : ∀ n os, At4 (grow (w.drewN n) os) g j (E d[j]!)
  call : ∀ n os, Calls Yba.prog 18 #[.agg (E d[i]!).cells.toArray, .agg (E d[j]!).cells.toArray, ptrV bc] (grow (w.drewN n) os) fun e w' => e = .returned (.bool (decide (S d[i]! = S d[j]!))) ∧ ∃ q os', w' = grow ((grow (w.drewN n) os).drewN q) os'
theorem eq2_of {E : Nat → Key} {S : Nat → List Int} {W0 : World} {g bc : Nat} {d0 d : Array Nat} {w : World} (hH : HoldsK (encE E) 4 W0 g 0 d0) (hg : g < W0.heap.size) (hs : d.size = d0.size) (hC : EqLays E S g bc d0.size W0) (hS : SWK (encE E) 4 W0 g 0 d w) {i j : Nat} (hi : i < d.size) (hj : j < d.size) : Eq2 E S W0 g bc d w i j := by
  refine ⟨fun n os => at4_of ((hS.grown n os).holds hg hH hs) hi, fun n os => at4_of ((hS.grown n os).holds hg hH hs) hj, fun n os => ?_⟩
  obtain ⟨m, os0, hw⟩ := hS.grown n os
  rw [hw]
  exact hC m os0 d hs _ _
set_option maxRecDepth 100000 in
set_option maxHeartbeats 2000000 in
theorem compact_any (E : Nat → Key) (S : Nat → List Int) (g L cap bc zz : Nat) (W0 : World) (d0 d : Array Nat) (w : World) (hH : HoldsK (encE E) 4 W0 g 0 d0) (hg : g < W0.heap.size) (hE : EqLays E S g bc d0.size W0) (hz : E zz = ⟨0, 0, none, 0, 0, none, 0, 0⟩) (hs : d.size = d0.size) (hn : d.size = L) (hL : L ≤ 4096) (hcap : L ≤ cap) (hS : SWK (encE E) 4 W0 g 0 d w) :
    Calls Yba.prog 17 #[.slice (some ⟨g, 0, none⟩) L cap, eqV bc] w fun e w' => ∃ D d', e = .returned (.slice (some ⟨g, 0, none⟩) D cap) ∧ SWK (encE E) 4 W0 g 0 d' w' ∧ CompOut S d d' D L zz := by
  have mx := mixed
  have HH : Hid (HoldsK (encE E) 4 W0 g 0 d0) := hH
  have HE : Hid (EqLays E S g bc d0.size W0) := hE
  have HS : Hid (SWK (encE E) 4 W0 g 0 d w) := hS
  have HZ : Hid (E zz = ⟨0, 0, none, 0, 0, none, 0, 0⟩) := hz
  clear hH hE hS hz
  by_cases h2 : L < 2
  · go_enter Yba.func17, Yba.ntmps17
    go_wp2_with fail
    go_ret
    exact ⟨L, d, rfl, HS.out, compOut_all zz hn (fun j hj => by simp [keepB]; left; omega)⟩
  go_enter Yba.func17, Yba.ntmps17
  go_wp2_with fail
  go_loopg [5] L (fun g' vk wr => ∃ k : Nat, L - k ≤ g' ∧ 1 ≤ k ∧ k ≤ L ∧ vk = .int .i64 k ∧ SWK (encE E) 4 W0 g 0 d wr ∧ ∀ j, j < k → keepB S d j = true)
  case atStart => exact ⟨1, by omega, by omega, by omega, rfl, HS.out, fun j hj => by simp [keepB]; left; omega⟩
  case round =>
    obtain ⟨k, hgk, hk1, hkL, rfl, hSk, hall⟩ := hrel
    have HG : Hid (L - k ≤ gk) := hgk
    have HSk : Hid (SWK (encE E) 4 W0 g 0 d wr) := hSk
    have HA : Hid (∀ j, j < k → keepB S d j = true) := hall
    clear hgk hSk hall
    by_cases hlt : k < L
    · obtain ⟨kp, hkp⟩ : ∃ kp, kp = k - 1 := ⟨_, rfl⟩
      have hkz : (k : Int) - 1 = (kp : Int) := by omega
      have K := eq2_of (i := k) (j := kp) HH.out hg hs HE.out HSk.out (by omega) (by omega)
      obtain ⟨A, B, call⟩ := K
      have HKB : Hid (keepB S d k = !decide (S d[k]! = S d[kp]!)) := by
        show _ = _
        rw [hkp]
        unfold keepB
        by_cases p : S d[k]! = S d[k - 1]!
        · simp [p]; omega
        · simp [p]
      obtain ⟨z, hz⟩ : ∃ z, decide (S d[k]! = S d[kp]!) = z := ⟨_, rfl⟩
      rw [hz] at call
      have HKZ : Hid (keepB S d k = !z) := by rw [← hz]; exact HKB
      clear hz HKB hkp
      generalize E d[k]! = x at *
      generalize E d[kp]! = y at *
      simp only [Key.cells] at call
      have a0 := fun n os => (A n os).c0
      have a1 := fun n os => (A n os).c1
      have a2 := fun n os => (A n os).c2
      have a3 := fun n os => (A n os).c3
      have b0 := fun n os => (B n os).c0
      have b1 := fun n os => (B n os).c1
      have b2 := fun n os => (B n os).c2
      have b3 := fun n os => (B n os).c3
      have hb1 : (k : Int) < (L : Int) := by omega
      have hb2 : (kp : Int) < (L : Int) := by omega
      have hwk : IntKind.i64.wrap (kp : Int) = (kp : Int) := by rw [IntKind.wrap_i64]; omega
      clear A B
      go_wp2_with fail
      go_quiet_grown (first | (go_at_call 18; refine Calls.grown_of (call _ _)))
      clear a0 a1 a2 a3 b0 b1 b2 b3 call
      have HSq : Hid (SWK (encE E) 4 W0 g 0 d (grow (wr.drewN nq) osq)) := HSk.out.grown nq osq
      generalize grow (wr.drewN nq) osq = wq at *
      clear HSk hkz hwk
      cases z
      · -- not the same: on
        go_wp2_with fail
        go_roundg (L - (k + 1))
        case measure => have := HG.out; omega
        case rel =>
          refine ⟨k + 1, by omega, by omega, by omega, by go_num, HSq.out, fun j hj => ?_⟩
          by_cases p : j = k
          · subst p; rw [HKZ.out]; rfl
          · exact HA.out j (by omega)
      · -- the first repetition
        have hst := CompMid.start (S := S) (d := d) hk1 HA.out (by rw [HKZ.out]; rfl)
        have HST : Hid (CompMid S d d k (k + 1)) := hst
        clear hst HKZ HA
        go_wp2_with fail
        go_loopg [5, 7] L (fun g' vk v2 wx => ∃ kk k2 : Nat, L - k2 ≤ g' ∧ 1 ≤ k2 ∧ k + k2 ≤ L ∧ vk = .int .i64 kk ∧ v2 = .int .i64 k2 ∧ ∃ dk, SWK (encE E) 4 W0 g 0 dk wx ∧ CompMid S d dk kk (k + k2))
        case atStart => exact ⟨k, 1, by omega, by omega, by omega, rfl, rfl, d, HSq.out, HST.out⟩
        case round =>
          clear HST HSq HG
          obtain ⟨kk, k2, hg2, hk21, hk2L, rfl, rfl, dk, hSd, hM⟩ := hrel
          have HG2 : Hid (L - k2 ≤ gk) := hg2
          have hdk : dk.size = L := hM.size.trans hn
          have hkk : kk + 1 ≤ k + k2 := hM.kq
          have HM : Hid (CompMid S d dk kk (k + k2)) := hM
          have HSd : Hid (SWK (encE E) 4 W0 g 0 dk wr) := hSd
          clear hM hg2 hSd
          by_cases hlt2 : k2 < L - k
          · obtain ⟨p2, hp2⟩ : ∃ p2, p2 = k2 - 1 := ⟨_, rfl⟩
            have hpz : (k2 : Int) - 1 = (p2 : Int) := by omega
            have K := eq2_of (i := k + k2) (j := k + p2) HH.out hg (by omega) HE.out HSd.out (by omega) (by omega)
            obtain ⟨A, B, call⟩ := K
            obtain ⟨u, hu⟩ : ∃ u, dk[k + k2]! = u := ⟨_, rfl⟩
            have hud : d[k + k2]! = u := by rw [← hu, HM.out.hi _ (by omega)]
            have hpd : dk[k + p2]! = d[k + k2 - 1]! := by rw [HM.out.hi _ (by omega), show k + p2 = k + k2 - 1 by omega]
            have HKB : keepB S d (k + k2) = !decide (S dk[k + k2]! = S dk[k + p2]!) := by
              rw [hpd, hu, ← hud]
              unfold keepB
              by_cases p : S d[k + k2]! = S d[k + k2 - 1]!
              · simp [p]; omega
              · simp [p]
            obtain ⟨z, hz⟩ : ∃ z, decide (S dk[k + k2]! = S dk[k + p2]!) = z := ⟨_, rfl⟩
            rw [hz] at call HKB
            have HKZ : Hid (keepB S d (k + k2) = !z) := HKB
            have HUD : Hid (d[k + k2]! = u) := hud
            rw [hu] at call A
            have AU := A
            generalize E dk[k + p2]! = y at *
            obtain ⟨x, hx⟩ : ∃ x, E u = x := ⟨_, rfl⟩
            rw [hx] at call A
            have HX : Hid (E u = x) := hx
            simp only [Key.cells] at call
            have o1 : (k + k2) * 4 = k * 4 + k2 * 4 := by omega
            have o2 : (k + p2) * 4 = k * 4 + p2 * 4 := by omega
            have a0 := fun n os => (A n os).c0
            have a1 := fun n os => (A n os).c1
            have a2 := fun n os => (A n os).c2
            have a3 := fun n os => (A n os).c3
            have b0 := fun n os => (B n os).c0
            have b1 := fun n os => (B n os).c1
            have b2 := fun n os => (B n os).c2
            have b3 := fun n os => (B n os).c3
            rw [o1] at a0 a1 a2 a3
            rw [o2] at b0 b1 b2 b3
            have hb1 : (k2 : Int) < (L : Int) - (k : Int) := by omega
            have hb2 : (p2 : Int) < (L : Int) - (k : Int) := by omega
            have hb3 : (k2 : Int) < ((L - k : Nat) : Int) := by omega
            have hb4 : (p2 : Int) < ((L - k : Nat) : Int) := by omega
            have hwk : IntKind.i64.wrap (p2 : Int) = (p2 : Int) := by rw [IntKind.wrap_i64]; omega
            clear A B AU hz HKB hud hpd hu hx o1 o2 hp2
            go_wp2_with fail
            go_quiet_grown (first | (go_at_call 18; refine Calls.grown_of (call _ _)))
            have a0' := a0 nq osq
            have a1' := a1 nq osq
            have a2' := a2 nq osq
            have a3' := a3 nq osq
            clear a0 a1 a2 a3 b0 b1 b2 b3 call
            have HSq : Hid (SWK (encE E) 4 W0 g 0 dk (grow (wr.drewN nq) osq)) := HSd.out.grown nq osq
            generalize grow (wr.drewN nq) osq = wq at *
            clear HSd hpz hwk
            cases z
            · -- kept
              have A4 := at4_of (HSq.out.holds hg HH.out (by omega)) (i := kk) (by omega)
              obtain ⟨c0, c1, c2, c3, e0, e1, e2, e3⟩ := A4
              have hset := SWK.setMany HSq.out hg (kk * 4) (encE E u) (by rw [encE_len]; omega) (setMany_set E dk kk u (by omega))
              simp only [encE, Key.cells, World.setCells, HX.out] at hset
              generalize E dk[kk]! = old at *
              obtain ⟨x0, x1, x2, x3, x4, x5, x6, x7⟩ := x
              simp only at hset a0' a1' a2' a3'
              have HSET : Hid _ := hset
              have HKP : Hid (CompMid S d (dk.setIfInBounds kk u) (kk + 1) (k + k2 + 1)) := by
                have := HM.out.keep (by omega) (by rw [HKZ.out]; rfl)
                rw [HUD.out] at this
                exact this
              have hbk : (kk : Int) < (L : Int) := by omega
              clear hset
              go_wp2_with fail
              go_roundg (L - (k2 + 1))
              case measure => have := HG2.out; omega
              case rel => exact ⟨kk + 1, k2 + 1, by omega, by omega, by omega, by go_num, by go_num, _, HSET.out, HKP.out⟩
            · -- a repetition
              go_wp2_with fail
              go_roundg (L - (k2 + 1))
              case measure => have := HG2.out; omega
              case rel => exact ⟨kk, k2 + 1, by omega, by omega, by omega, rfl, by go_num, dk, HSq.out, HM.out.skip (by rw [HKZ.out]; rfl)⟩
          · have hend : k + k2 = L := by omega
            have hHd := HSd.out.holds hg HH.out (by omega)
            have hcl : ∀ ty, (Builtin.clear_ #[24] ty #[.slice (some ⟨g, kk * 4, none⟩) (L - kk) (cap - kk)]).run Yba.prog wr = .ok (.tuple #[]) (wr.setCells g (kk * 4) (zeros (L - kk))) := fun ty =>
              run_clear4 wr g (kk * 4) (L - kk) (cap - kk) (by omega) ty
                (fun j hj => by have := (hHd (kk * 4 + j) (by rw [size_flatK]; omega)).1; rw [Nat.zero_add] at this; rw [this]; rfl)
                (fun j hj => by have := (hHd (kk * 4 + j) (by rw [size_flatK]; omega)).2; rwa [Nat.zero_add] at this)
            have hset := SWK.setMany HSd.out hg (kk * 4) (zeros (L - kk)) (by rw [zeros_len, hdk]; omega) (by rw [← hdk]; exact setMany_zeros E dk kk zz (by omega) HZ.out)
            have HSET : Hid (SWK (encE E) 4 W0 g 0 (cutAt dk kk zz) (wr.setCells g (kk * 4) (zeros (L - kk)))) := hset
            have HD : Hid (CompOut S d (cutAt dk kk zz) kk L zz) := (by have := HM.out; rw [hend] at this; exact this.done hn zz)
            clear hset hHd
            go_wp2_with fail
            go_ret
            exact ⟨kk, _, rfl, HSET.out, HD.out⟩
    · obtain rfl : L = k := by omega
      go_wp2_with fail
      go_ret
      exact ⟨L, d, rfl, HSk.out, compOut_all zz hn HA.out⟩
end Go.Proofs.Ybulkdkos
