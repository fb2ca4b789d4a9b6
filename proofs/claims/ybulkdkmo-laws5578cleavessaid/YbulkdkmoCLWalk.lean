/-
  LawS5578CLeaves: the walk of the law.
-/
import Derived.Test.YbulkdkmoCLSort
import Derived.Deep.Slices
namespace Go.Proofs.Ybulkdkmo
open Go.ChangeShapes Go.WideShapes Go.ChangeAt Go.RowKit
set_option linter.unusedVariables false
theorem Blk.at' {w : World} {b : Nat} {c : Array Value} {t : TypeId} (h : Blk w b c t) {i : Nat} (hi : i < c.size) : (∃ v, w.cell? ⟨b, i, none⟩ = some v) ∧ w.frozen? ⟨b, i, none⟩ = false :=
  ⟨⟨_, h.cell (Array.getElem?_eq_getElem hi)⟩, h.frozen i⟩
theorem make_kids0 (n : Nat) (hn : n ≤ 1048576) (w : World) : (Instr.makeSlice 48 (.int .i64 0) (.int .i64 (n : Int))).run Yba.prog w = .ok (.slice (some ⟨w.heap.size, 0, none⟩) 0 n) (w.alloc (.cells (madeCells #[.int .u64 0, .int .i64 0, .pointer none] (n * 3)) 56)) := by
  obtain ⟨i, hi, hz0, hz1, hz2⟩ := info_parts Yba.info56
  have := run_make (P := Yba.prog) w 48 56 i _ Yba.underlying48 hi hz0 .i64 .i64 0 n (by omega) (by omega) (by rw [hz2]; omega) (by omega)
  rw [hz1] at this
  simpa [Value.cells] using this
/-- The slots written so far. -/
def Slots (Y : Nat → Int) (c : Array Value) (k : Nat) : Prop := ∀ j, j < k → c[j * 2 + 1]? = some (.int .u64 (Y j))
theorem Slots.step {Y : Nat → Int} {c : Array Value} {k m : Nat} (h : Slots Y c k) (hc : c.size = m * 2) (hk : k < m) (v : Value) : Slots Y ((c.setIfInBounds (k * 2) v).setIfInBounds (k * 2 + 1) (.int .u64 (Y k))) (k + 1) := by
  intro j hj
  rw [Array.getElem?_setIfInBounds]
  by_cases e : j = k
  · subst e
    rw [if_pos rfl, if_pos (by simp; omega)]
  · rw [if_neg (by omega), Array.getElem?_setIfInBounds, if_neg (by omega)]
    exact h j (by omega)
/-- The children hung up so far. -/
structure L2 (w5 wr : World) (Y : Nat → Int) (m k : Nat) (vk : Value) (xs : List Value) : Prop where
  bel : Below w5.heap.size w5 wr
  var : Blk wr (w5.heap.size + 1) #[vk] 48
  own : wr.ownsRow w5.heap.size 56 3 vk k xs
  top : 0 < k → xs[(k - 1) * 3]? = some (.int .u64 (Y (min (64 * k) m - 1)))
theorem owns_below {B base : Nat} {w w' : World} {e : TypeId} {size n : Nat} {v : Value} {xs : List Value} (h : w.ownsRow base e size v n xs) (hb : Below w.heap.size w w') : w'.ownsRow base e size v n xs := by
  refine ⟨h.1, ?_⟩
  rcases h.2 with h | ⟨g, cap, cur, e1, e2, e3, e4⟩
  · exact Or.inl h
  · exact Or.inr ⟨g, cap, cur, e1, e2, by rw [hb.block g (Array.getElem?_eq_some_iff.1 e3).1]; exact e3, e4⟩
theorem L2.below {w5 wr w' : World} {Y : Nat → Int} {m k : Nat} {vk : Value} {xs : List Value} (h : L2 w5 wr Y m k vk xs) (hb : Below wr.heap.size wr w') : L2 w5 w' Y m k vk xs :=
  ⟨h.bel.trans (hb.mono h.bel.size), h.var.below hb h.var.lt, owns_below (B := 0) h.own hb, h.top⟩
theorem L2.push {w5 w w1 : World} {Y : Nat → Int} {m k : Nat} {v v' : Value} {xs : List Value} {y : Int} {va vb : Value} (h : L2 w5 w Y m k v xs) (o : Obj) (hg : (w.alloc o).grownBy w1 v.ownBlock)
    (ho : w1.ownsRow w5.heap.size 56 3 v' (k + 1) (xs ++ [.int .u64 y, va, vb])) (hy : Y (min (64 * (k + 1)) m - 1) = y) :
    L2 w5 (w1.setCell ⟨w5.heap.size + 1, 0, none⟩ v') Y m (k + 1) v' (xs ++ [.int .u64 y, va, vb]) ∧ w1.cell? ⟨w5.heap.size + 1, 0, none⟩ = some v ∧ w1.frozen? ⟨w5.heap.size + 1, 0, none⟩ = false := by
  have hv := h.var.alloc o
  have hv1 := hv.grown hg (owns_ne (h.own.alloc o) hv (by decide))
  have hrow : ∀ q, v.ownBlock = some q → w5.heap.size ≤ q := fun q hq => (h.own.lt q hq).1
  have hsz := h.bel.size
  refine ⟨⟨((h.bel.alloc hsz o).grown hg (by simp; omega) hrow).setCell (by simp) _, by simpa using hv1.set 0 v', ?_, fun _ => ?_⟩, hv1.cell rfl, hv1.frozen 0⟩
  · exact ownsRow_setCell_other ho (owns_ne ho hv1 (by decide)) _
  · have hl : xs.length = k * 3 := h.own.1
    rw [show (k + 1 - 1) * 3 = xs.length by omega, List.getElem?_append_right (Nat.le_refl _), hy]
    simp
set_option maxRecDepth 100000 in
set_option maxHeartbeats 4000000 in
theorem whole_walk (a : Option Addr) (n c : Nat) (Z : Nat → Int) (w : World) (q : 0 < n → ∃ b o, a = some ⟨b, o, none⟩ ∧ b < w.heap.size ∧ ∀ j, j < n → w.cell? ⟨b, o + j, none⟩ = some (.int .u64 (Z j))) (hz : ∀ j, 0 ≤ Z j) :
    Calls Yba.prog 6 #[.slice a n c] w fun e w' => e = .returned (.bool true) ∧ Below w.heap.size w w' := by
  by_cases h0 : n = 0
  · subst h0
    go_enter Yba.func6, Yba.ntmps6
    go_wp2_with fail
    go_ret
    exact ⟨rfl, Below.refl _ _⟩
  by_cases h1 : 1048576 < n
  · go_enter Yba.func6, Yba.ntmps6
    go_wp2_with fail
    go_ret
    exact ⟨rfl, Below.refl _ _⟩
  obtain ⟨b, o, rfl, hbl, hcell⟩ := q (by omega)
  clear q
  obtain ⟨hm1, hm2, hlast⟩ := left_facts Z n (by omega) hz
  have HIN : Hid (b < w.heap.size ∧ ∀ j, j < n → w.cell? ⟨b, o + j, none⟩ = some (.int .u64 (Z j))) := ⟨hbl, hcell⟩
  have T1 := clone_row b o n c Z w (by omega) (by omega) hcell
  clear hcell
  have t0 : ((n : Int) == 0) = false := by simp; omega
  have t1 : decide ((1048576 : Int) < (n : Int)) = false := by simp; omega
  go_enter Yba.func6, Yba.ntmps6
  go_wp2_with fail
  clear t0 t1
  refine T1.mono ?_
  rintro e w1 ⟨g, cap, cur, rfl, hg, hb1, hnc, hcm, hcs, htk, bel1⟩
  clear T1
  have T2 := sort_row g n cap Z cur w1 hb1 hnc hcs (by omega) htk
  have HX : Hid (w.heap.size ≤ g ∧ Below w.heap.size w w1) := ⟨hg, bel1⟩
  clear hb1 htk bel1 hg hcs
  go_wp2_with fail
  refine T2.mono ?_
  rintro e w2 ⟨rfl, bel2, cur2, hb2, hcs2, htk2⟩
  clear T2
  have T3 := compact_row g n cap Z cur2 w2 hb2 hnc hcs2 (by omega) htk2
  have HX2 : Hid (w.heap.size ≤ g ∧ Below w.heap.size w w2) := ⟨HX.out.1, HX.out.2.trans (bel2.mono HX.out.1)⟩
  clear hb2 htk2 bel2 hcs2 HX
  go_wp2_with fail
  refine T3.mono ?_
  rintro e w3 ⟨rfl, bel3, cur3, hb3, hy⟩
  clear T3
  have HX3 : Hid (w.heap.size ≤ g ∧ Below w.heap.size w w3) := ⟨HX2.out.1, HX2.out.2.trans (bel3.mono HX2.out.1)⟩
  clear bel3 HX2
  generalize hm : (left Z n).length = m at *
  obtain ⟨Y, hY⟩ : ∃ Y : Nat → Int, ∀ j, Y j = (left Z n).getD j 0 := ⟨_, fun _ => rfl⟩
  simp only [← hY] at hlast hy
  clear hY hm
  have hmk := make_slots m (by omega)
  have hS0 := Blk.new w3 (madeCells #[.int .i64 0, .int .u64 0] (m * 2)) 50
  have HB : Hid (Blk w3 g cur3 31 ∧ ∀ j, j < m → cur3[j]? = some (.int .u64 (Y j))) := ⟨hb3, hy⟩
  have HS0 : Hid (Blk (w3.alloc (.cells (madeCells #[.int .i64 0, .int .u64 0] (m * 2)) 50)) w3.heap.size (madeCells #[.int .i64 0, .int .u64 0] (m * 2)) 50) := hS0
  have HL : Hid (Y (m - 1) = mxOf Z n) := hlast
  clear hb3 hy hS0 hlast
  go_wp2_with fail
  clear hmk
  go_loopg [5] m (fun g' i wr => ∃ k : Nat, g' = m - k ∧ k ≤ m ∧ i = .int .i64 k ∧ Below w.heap.size w wr ∧ Below w3.heap.size w3 wr ∧ ∃ cs, Blk wr w3.heap.size cs 50 ∧ cs.size = m * 2 ∧ Slots Y cs k)
  case atStart => exact ⟨0, rfl, Nat.zero_le _, rfl, HX3.out.2.alloc HX3.out.2.size _, (Below.refl _ _).alloc (Nat.le_refl _) _, _, HS0.out, size_madeCells _ _, fun j hj => absurd hj (by omega)⟩
  case round =>
    clear HS0
    obtain ⟨k, hgk, hk, rfl, belw, bel3, cs, hS, hcs, hsl⟩ := hrel
    have HG : Hid (gk = m - k) := hgk
    clear hgk
    have hgb := HB.out.1.below bel3 HB.out.1.lt
    have hlg : g < w3.heap.size := HB.out.1.lt
    by_cases hlt : k < m
    · have hcx := hgb.cell (HB.out.2 k hlt)
      have hc0 := hS.at' (i := k * 2) (by omega)
      have hc1 := hS.at' (i := k * 2 + 1) (by omega)
      have hlS := hS.lt
      obtain ⟨⟨v0, hv0⟩, hf0⟩ := hc0
      obtain ⟨⟨v1, hv1⟩, hf1⟩ := hc1
      have HK : Hid (Below w.heap.size w wr ∧ Below w3.heap.size w3 wr ∧ Blk wr w3.heap.size cs 50 ∧ cs.size = m * 2 ∧ Slots Y cs k) := ⟨belw, bel3, hS, hcs, hsl⟩
      clear belw bel3 hS hcs hsl hgb
      go_wp2_with fail
      obtain ⟨belw, bel3, hS, hcs, hsl⟩ := HK.out
      have hle := HX3.out.2.size
      go_roundg (m - (k + 1))
      case measure => have := HG.out; omega
      case rel => exact ⟨k + 1, rfl, by omega, by go_num, (belw.setCell (by simpa using hle) _).setCell (by simpa using hle) _, (bel3.setCell (Nat.le_refl _) _).setCell (Nat.le_refl _) _, _, (hS.set _ _).set _ _, by simpa using hcs, hsl.step hcs hlt _⟩
    · obtain rfl : m = k := by omega
      have T4 := leavesOf_all w3.heap.size m wr hm1 (by omega)
      have HK : Hid (Below w.heap.size w wr ∧ Blk wr g cur3 31 ∧ Blk wr w3.heap.size cs 50 ∧ Slots Y cs m) := ⟨belw, hgb, hS, hsl⟩
      clear belw bel3 hS hcs hsl hgb HG hk
      go_wp2_with fail
      refine T4.mono ?_
      rintro e w5 ⟨v, ps, rfl, hl⟩
      clear T4
      obtain ⟨Q, hQ⟩ : ∃ Q, (m + 63) / 64 = Q := ⟨_, rfl⟩
      rw [hQ] at hl
      have hQ1 : 0 < Q ∧ 64 * (Q - 1) < m ∧ m ≤ 64 * Q ∧ Q ≤ 1048576 := by omega
      clear hQ
      obtain ⟨hQa, hQb, hQc, hQd⟩ := hQ1
      obtain ⟨gl, capl, curl, rfl, hgl, hbgl, -, -, -, htl⟩ : ∃ gl capl curl, v = .slice (some ⟨gl, 0, none⟩) Q capl ∧ wr.heap.size ≤ gl ∧ Blk w5 gl curl 24 ∧ Q ≤ capl ∧ capl ≤ maxLen ∧ curl.size = capl * 1 ∧ curl.toList.take (Q * 1) = ps.map ptrV := by
        rcases hl.own.2 with ⟨_, h⟩ | h
        · omega
        · exact h
      have hP : ∀ j, j < Q → ∃ p, ps[j]? = some p ∧ curl[j]? = some (ptrV p) := by
        intro j hj
        have hj2 : j < ps.length := by rw [hl.len]; exact hj
        refine ⟨_, List.getElem?_eq_getElem hj2, ?_⟩
        have h2 : (curl.toList.take (Q * 1))[j]? = (ps.map ptrV)[j]? := by rw [htl]
        rw [List.getElem?_take_of_lt (by omega), Array.getElem?_toList] at h2
        rw [h2, List.getElem?_map, List.getElem?_eq_getElem hj2]
        rfl
      obtain ⟨belw, hgb, hS, hsl⟩ := HK.out
      have HW : Hid (Below w.heap.size w w5 ∧ Blk w5 g cur3 31 ∧ Blk w5 w3.heap.size cs 50 ∧ Blk w5 gl curl 24 ∧ (∀ j p, ps[j]? = some p → Blk w5 p (leafCells w3.heap.size m j) 54) ∧ (∀ j, j < Q → ∃ p, ps[j]? = some p ∧ curl[j]? = some (ptrV p)) ∧ Slots Y cs m) :=
        ⟨belw.trans (hl.bel.mono belw.size), hgb.below hl.bel hgb.lt, hS.below hl.bel hS.lt, hbgl, hl.blk, hP, hsl⟩
      clear hl htl hP hbgl belw hgb hS hsl hgl HK
      have hmk := make_kids0 Q hQd
      have hK0 := World.ownsRow_made (base := w5.heap.size) (e := 56) (size := 3) w5 (madeCells #[.int .u64 0, .int .i64 0, .pointer none] (Q * 3)) Q (Nat.le_refl _) (by unfold maxLen; omega) (size_madeCells _ _)
      have HK0 : Hid ((w5.alloc (.cells (madeCells #[.int .u64 0, .int .i64 0, .pointer none] (Q * 3)) 56)).ownsRow w5.heap.size 56 3 (.slice (some ⟨w5.heap.size, 0, none⟩) 0 Q) 0 []) := hK0
      clear hK0
      go_wp2_with fail
      clear hmk
      go_loopg [8] Q (fun g' i wr => ∃ k : Nat, g' = Q - k ∧ k ≤ Q ∧ i = .int .i64 k ∧ ∃ vk xs, L2 w5 wr Y m k vk xs)
      case atStart =>
        refine ⟨0, rfl, Nat.zero_le _, rfl, .slice (some ⟨w5.heap.size, 0, none⟩) 0 Q, [], ((Below.refl _ _).alloc (Nat.le_refl _) _).alloc (by simp) _, ?_, World.ownsRow.alloc HK0.out _, fun h => absurd h (by omega)⟩
        have := Blk.new (w5.alloc (.cells (madeCells #[.int .u64 0, .int .i64 0, .pointer none] (Q * 3)) 56)) #[.slice (some ⟨w5.heap.size, 0, none⟩) 0 Q] 48
        simpa using this
      case round =>
        clear HK0 HX3
        obtain ⟨k, hgk, hk, rfl, vk, xs, h2⟩ := hrel
        have HG : Hid (gk = Q - k) := hgk
        clear hgk
        obtain ⟨belw, hgb, hS, hbgl, hnodes, hP, hsl⟩ := HW.out
        by_cases hlt : k < Q
        · obtain ⟨p, hp1, hp2⟩ := hP k hlt
          have hL : 0 < leafN m k ∧ leafN m k ≤ 64 ∧ 64 * k + leafN m k = min (64 * (k + 1)) m := by unfold leafN; omega
          have nb5 := hnodes k p hp1
          unfold leafCells at nb5
          generalize leafN m k = L at *
          have nb := nb5.below h2.bel nb5.lt
          have c1 := (hbgl.below h2.bel hbgl.lt).cell hp2
          have n0 := nb.cell (i := 0) (v := .slice (some ⟨w3.heap.size, 64 * k * 2, none⟩) L L) rfl
          have n1 := nb.cell (i := 1) (v := .pointer none) rfl
          have hx := (hS.below h2.bel hS.lt).cell (hsl (64 * k + L - 1) (by omega))
          have hgx := (hgb.below h2.bel hgb.lt).cell (HB.out.2 (64 * k + L - 1) (by omega))
          rw [show (64 * k + L - 1) * 2 + 1 = 64 * k * 2 + (L - 1) * 2 + 1 by omega] at hx
          obtain ⟨y, hy⟩ : ∃ y, Y (64 * k + L - 1) = y := ⟨_, rfl⟩
          rw [hy] at hx hgx
          have T5 := asChild_at p w3.heap.size (64 * k * 2) L L y wr hL.1 (by omega) n0 n1 hx
          have HN : Hid (Blk w5 p #[.slice (some ⟨w3.heap.size, 64 * k * 2, none⟩) L L, .pointer none] 54 ∧ Y (min (64 * (k + 1)) m - 1) = y ∧ curl[k]? = some (ptrV p)) := ⟨nb5, by rw [← hL.2.2]; exact hy, hp2⟩
          have H2 : Hid (L2 w5 wr Y m k vk xs) := h2
          clear n0 n1 hx nb nb5 hp1 hp2 hgx h2 hgb hS hbgl hnodes hP hsl belw hy
          go_wp2_with fail
          refine T5.mono ?_
          rintro e w6 ⟨rfl, bel6⟩
          clear T5
          have H6 : Hid (L2 w5 w6 Y m k vk xs) := H2.out.below bel6
          clear bel6 H2
          obtain ⟨E, hE⟩ : ∃ E, 64 * k + L = E := ⟨_, rfl⟩
          have hE1 : 0 < E := by omega
          have hE2 : E ≤ m := by omega
          have hmin : min (((k : Int) + 1) * 64) (m : Int) = (E : Int) := by omega
          have HE : Hid (64 * k + L = E) := hE
          clear hE
          go_wp2_with fail
          clear hmin
          have h7 := H6.out.below ((Below.refl _ w6).alloc (Nat.le_refl _) (.cells #[.int .u64 y, .int .i64 L, ptrV p] 56))
          have hc := Blk.new w6 #[.int .u64 y, .int .i64 L, ptrV p] 56
          have H6s : Hid (w5.heap.size + 1 < w6.heap.size) := H6.out.var.lt
          generalize (w6.alloc (.cells #[.int .u64 y, .int .i64 L, ptrV p] 56)) = w7 at *
          clear H6
          obtain ⟨belw, hgb, hS, hbgl, hnodes, hP, hsl⟩ := HW.out
          obtain ⟨nb5, hy, hp2⟩ := HN.out
          have c0 := hc.cell (i := 0) (v := .int .u64 y) rfl
          have hgx := (hgb.below h7.bel hgb.lt).cell (HB.out.2 (E - 1) (by omega))
          have c1 := (hbgl.below h7.bel hbgl.lt).cell hp2
          have hyy : Y (E - 1) = y := by rw [← hy, ← hL.2.2, HE.out]
          rw [hyy] at hgx
          have T6 : ∀ q, Calls Yba.prog 12 #[ptrV p] (w7.drewN q) fun e w' => e = .returned (.int .u64 y) ∧ ∃ m, w' = (w7.drewN q).drewN m := by
            intro q
            have nb := (nb5.below h7.bel nb5.lt).drewN q
            have hx := ((hS.below h7.bel hS.lt).drewN q).cell (hsl (E - 1) (by omega))
            rw [show (E - 1) * 2 + 1 = 64 * k * 2 + (L - 1) * 2 + 1 by have := HE.out; omega, hyy] at hx
            exact top_at p w3.heap.size (64 * k * 2) L L y _ hL.1 (by omega) (nb.cell rfl) (nb.cell rfl) hx
          have HT6 : Hid (∀ q, Calls Yba.prog 12 #[ptrV p] (w7.drewN q) fun e w' => e = .returned (.int .u64 y) ∧ ∃ m, w' = (w7.drewN q).drewN m) := T6
          have H7 : Hid (L2 w5 w7 Y m k vk xs ∧ Blk w7 w6.heap.size #[.int .u64 y, .int .i64 L, ptrV p] 56) := ⟨h7, hc⟩
          clear T6 h7 hc hgb hS hbgl hnodes hP hsl belw nb5 hy hp2 hyy
          go_quiet (first | (go_at_call 12; refine Calls.quiet_of (HT6.out _)))
          clear c0 hgx c1 HT6
          obtain ⟨h7, hc⟩ := H7.out
          have h8 := h7.below (belowN (Below.refl _ w7) nq)
          have hc8 := hc.drewN nq
          clear h7 hc H7
          generalize w7.drewN nq = w8 at *
          obtain ⟨ao, cc, rfl⟩ := owns_shape h8.own
          have d0 := h8.var.cell (i := 0) (v := .slice ao k cc) rfl
          have f0 := h8.var.frozen 0
          have e0 := hc8.cell (i := 0) (v := .int .u64 y) rfl
          have e1 := hc8.cell (i := 1) (v := .int .i64 L) rfl
          have e2 := hc8.cell (i := 2) (v := ptrV p) rfl
          have HO := fun ob => h8.own.alloc ob
          have hB8 : w5.heap.size + 1 < w8.heap.size := h8.var.lt
          have H8 : Hid (L2 w5 w8 Y m k (.slice ao k cc) xs) := h8
          clear h8 hc8 H6s
          obtain ⟨i0, hi0, hz0, hz1, hz2⟩ := info_parts Yba.info56
          go_wp2_with (at_builtin; go_loud (refine wpList_append_own _ rfl (.tmp 90) (.tmp 92) 48 rfl w5.heap.size 56 i0 (.agg #[.int .u64 0, .int .i64 0, .pointer none]) 3 24 Yba.underlying48 hi0 hz0 hz1 hz2 rfl (by decide) _ k xs rfl (HO _) _ 1 1 [.int .u64 y, .int .i64 L, ptrV p] rfl rfl ?c1 ?c2 ?c3 ?c4 ?c5 ?_))
          case c1 =>
            intro j u hj
            have hj3 : j < 3 := by
              by_cases h : j < 3
              · exact h
              · rw [List.getElem?_eq_none (by simp; omega)] at hj
                simp at hj
            have hnew := Blk.new w8 #[.int .u64 y, .int .i64 L, ptrV p] 56
            rw [add_plain, Nat.zero_add]
            refine hnew.cell ?_
            rw [← hj]
            simp
          case c2 => intro u hu; simp at hu; rcases hu with rfl | rfl | rfl <;> rfl
          case c3 => unfold maxLen; omega
          case c4 => omega
          case c5 => simp; omega
          intro v' w9 hown1 hg1 _
          obtain ⟨ao', cc', rfl⟩ := owns_shape hown1
          obtain ⟨r1, r2, r3⟩ := H8.out.push _ hg1 hown1 HN.out.2.1
          have HR : Hid (L2 w5 (w9.setCell ⟨w5.heap.size + 1, 0, none⟩ (.slice ao' (k + 1) cc')) Y m (k + 1) (.slice ao' (k + 1) cc') (xs ++ [.int .u64 y, .int .i64 L, ptrV p])) := r1
          clear r1 hown1 hg1 HO H8 d0 f0 e0 e1 e2
          go_wp2_with fail
          go_roundg (Q - (k + 1))
          case measure => have := HG.out; omega
          case rel => exact ⟨k + 1, rfl, by omega, by go_num, _, _, HR.out⟩
        · obtain rfl : Q = k := by omega
          obtain ⟨bk, capk, curk, rfl, hgbk, hbk, htop⟩ : ∃ bk capk curk, vk = .slice (some ⟨bk, 0, none⟩) Q capk ∧ w5.heap.size ≤ bk ∧ Blk wr bk curk 56 ∧ curk[(Q - 1) * 3]? = some (.int .u64 (Y (m - 1))) := by
            rcases h2.own.2 with ⟨_, h⟩ | ⟨bk, capk, curk, e1, e2, e3, e4, e5, e6, e7⟩
            · omega
            · refine ⟨bk, capk, curk, e1, e2, e3, ?_⟩
              have ht := h2.top hQa
              rw [← e7, List.getElem?_take_of_lt (by omega), Array.getElem?_toList, show min (64 * Q) m = m by omega] at ht
              exact ht
          have hR := Blk.new wr #[.slice none 0 0, .pointer (some ⟨w5.heap.size + 1, 0, none⟩)] 54
          have HE : Hid (Below w.heap.size w (wr.alloc (.cells #[.slice none 0 0, .pointer (some ⟨w5.heap.size + 1, 0, none⟩)] 54)) ∧ Blk (wr.alloc (.cells #[.slice none 0 0, .pointer (some ⟨w5.heap.size + 1, 0, none⟩)] 54)) wr.heap.size #[.slice none 0 0, .pointer (some ⟨w5.heap.size + 1, 0, none⟩)] 54 ∧
              Blk (wr.alloc (.cells #[.slice none 0 0, .pointer (some ⟨w5.heap.size + 1, 0, none⟩)] 54)) (w5.heap.size + 1) #[.slice (some ⟨bk, 0, none⟩) Q capk] 48 ∧ Blk (wr.alloc (.cells #[.slice none 0 0, .pointer (some ⟨w5.heap.size + 1, 0, none⟩)] 54)) bk curk 56) :=
            ⟨(belw.trans (h2.bel.mono belw.size)).alloc (by have := belw.size; have := h2.bel.size; omega) _, hR, h2.var.alloc _, hbk.alloc _⟩
          clear hR hbk h2 belw hgb hS hbgl hnodes hP hsl HG
          go_wp2_with fail
          generalize wr.alloc (.cells #[.slice none 0 0, .pointer (some ⟨w5.heap.size + 1, 0, none⟩)] 54) = w10 at *
          go_loopg [12, 98] n (fun g' mx i wx => ∃ k : Nat, g' = n - k ∧ k ≤ n ∧ mx = .int .u64 (mxOf Z k) ∧ i = .int .i64 k ∧ wx = w10)
          case atStart => exact ⟨0, rfl, Nat.zero_le _, rfl, rfl, rfl⟩
          case round =>
            obtain ⟨j, hgj, hj, rfl, rfl, rfl⟩ := hrel
            have HG : Hid (gk = n - j) := hgj
            clear hgj
            by_cases hlt : j < n
            · have hcx : wr.cell? ⟨b, o + j, none⟩ = some (.int .u64 (Z j)) := (HE.out.1.cell (p := ⟨b, o + j, none⟩) HIN.out.1).trans (HIN.out.2 j hlt)
              have hmx : mxOf Z (j + 1) = if mxOf Z j < Z j then Z j else mxOf Z j := rfl
              have HMX : Hid (mxOf Z (j + 1) = if mxOf Z j < Z j then Z j else mxOf Z j) := hmx
              clear hmx
              generalize mxOf Z j = x at *
              by_cases hcmp : x < Z j
              · go_wp2_with fail
                go_roundg (n - (j + 1))
                case measure => have := HG.out; omega
                case rel => exact ⟨j + 1, rfl, by omega, by rw [HMX.out, if_pos hcmp], by go_num, rfl⟩
              · go_wp2_with fail
                go_roundg (n - (j + 1))
                case measure => have := HG.out; omega
                case rel => exact ⟨j + 1, rfl, by omega, by rw [HMX.out, if_neg (by omega)], by go_num, rfl⟩
            · obtain rfl : n = j := by omega
              obtain ⟨hb10, hR, hV, hbk⟩ := HE.out
              have T7 := top_inner _ _ bk Q capk _ wr hQa hQd (hR.cell (i := 1) (v := .pointer (some ⟨w5.heap.size + 1, 0, none⟩)) rfl) (hV.cell (i := 0) (v := .slice (some ⟨bk, 0, none⟩) Q capk) rfl) (hbk.cell htop)
              rw [HL.out] at T7
              clear hR hV hbk htop HG hj
              generalize mxOf Z n = x at *
              go_wp2_with fail
              refine T7.mono ?_
              rintro e w11 ⟨rfl, q, rfl⟩
              go_wp2_with fail
              go_ret
              exact ⟨rfl, belowN hb10 q⟩
end Go.Proofs.Ybulkdkmo
