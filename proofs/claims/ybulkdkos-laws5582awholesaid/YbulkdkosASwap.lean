/-
  LawS5582AWhole: a key's cells; slices.swapRangeCmpFunc and rotateCmpFunc, walked.
-/
import Derived.Test.YbulkdkosProg
import Derived.Test.YbulkdkosAPure
import Derived.Shelf.SlSortCmp.KitK
import Derived.Shelf.SlGeneric
namespace Go.Proofs.Ybulkdkos
open Go.RowKit Go.Sort Go.Proofs
set_option linter.unusedVariables false
/-- A key's cells. -/
structure Key where
  k : Int
  s : Int
  sa : Option Addr
  sl : Nat
  sc : Nat
  va : Option Addr
  vl : Nat
  vc : Nat
def Key.cells (q : Key) : List Value := [.int .u8 q.k, .int .u64 q.s, .slice q.sa q.sl q.sc, .slice q.va q.vl q.vc]
abbrev encE (E : Nat → Key) : Nat → List Value := fun x => (E x).cells
theorem encE_len (E : Nat → Key) (x : Nat) : (encE E x).length = 4 := rfl
theorem encE_one (E : Nat → Key) (x : Nat) : ∀ v ∈ encE E x, v.oneCell' = true := by
  intro v hv
  simp [encE, Key.cells] at hv
  rcases hv with rfl | rfl | rfl | rfl <;> rfl
theorem rowE (E : Nat → Key) {w0 : World} {g : Nat} {d0 : Array Nat} (hH : HoldsK (encE E) 4 w0 g 0 d0) (hg : g < w0.heap.size) : RowK (encE E) 4 w0 g 0 d0 := ⟨encE_len E, encE_one E, hH, hg⟩
/-- The four cells of the element at i. -/
structure At4 (w : World) (g i : Nat) (q : Key) : Prop where
  c0 : w.cell? ⟨g, i * 4, none⟩ = some (.int .u8 q.k)
  c1 : w.cell? ⟨g, i * 4 + 1, none⟩ = some (.int .u64 q.s)
  c2 : w.cell? ⟨g, i * 4 + 2, none⟩ = some (.slice q.sa q.sl q.sc)
  c3 : w.cell? ⟨g, i * 4 + 3, none⟩ = some (.slice q.va q.vl q.vc)
  f0 : w.frozen? ⟨g, i * 4, none⟩ = false
  f1 : w.frozen? ⟨g, i * 4 + 1, none⟩ = false
  f2 : w.frozen? ⟨g, i * 4 + 2, none⟩ = false
  f3 : w.frozen? ⟨g, i * 4 + 3, none⟩ = false
theorem at4_of {E : Nat → Key} {w : World} {g : Nat} {d : Array Nat} (h : HoldsK (encE E) 4 w g 0 d) {i : Nat} (hi : i < d.size) : At4 w g i (E d[i]!) := by
  have h0 := h.cell hi (c := 0) (by omega)
  have h1 := h.cell hi (c := 1) (by omega)
  have h2 := h.cell hi (c := 2) (by omega)
  have h3 := h.cell hi (c := 3) (by omega)
  simp only [Nat.zero_add, Nat.add_zero] at h0 h1 h2 h3
  exact ⟨h0.1, h1.1, h2.1, h3.1, h0.2, h1.2, h2.2, h3.2⟩
theorem mixed : Yba.prog.follows .mixedOrders = true := by kernel_rfl
set_option maxRecDepth 100000 in
set_option maxHeartbeats 2000000 in
theorem swapRange_any (E : Nat → Key) (g n cap a b q : Nat) (cv : Value) (W0 : World) (d0 d : Array Nat) (w : World) (hH : HoldsK (encE E) 4 W0 g 0 d0) (hg : g < W0.heap.size) (hn : d.size = n) (hs : d.size = d0.size) (hS : SWK (encE E) 4 W0 g 0 d w) (hsz : n ≤ 1000000) (h1 : a + q ≤ b) (h2 : b + q ≤ n) :
    Calls Yba.prog 29 #[.slice (some ⟨g, 0, none⟩) n cap, .int .i64 a, .int .i64 b, .int .i64 q, cv] w fun e w' => e = .returned (.tuple #[]) ∧ ∃ d', d'.size = d.size ∧ SWK (encE E) 4 W0 g 0 d' w' ∧
      ∀ t, d'[t]! = if a ≤ t ∧ t < a + q then d[t + (b - a)]! else if b ≤ t ∧ t < b + q then d[t - (b - a)]! else d[t]! := by
  have mx := mixed
  go_enter Yba.func29, Yba.ntmps29
  go_wp2_with fail
  go_loopg [10] q (fun g' i wr => ∃ k : Nat, g' = q - k ∧ k ≤ q ∧ i = .int .i64 k ∧ ∃ dk, dk.size = d.size ∧ SWK (encE E) 4 W0 g 0 dk wr ∧ Hid (∀ t, dk[t]! = if a ≤ t ∧ t < a + k then d[t + (b - a)]! else if b ≤ t ∧ t < b + k then d[t - (b - a)]! else d[t]!))
  case atStart => exact ⟨0, rfl, Nat.zero_le _, rfl, d, rfl, hS, fun t => by rw [if_neg (by omega), if_neg (by omega)]⟩
  case round =>
    obtain ⟨k, hgk, hk, rfl, dk, hdk, hSk, hv⟩ := hrel
    have HG : Hid (gk = q - k) := hgk
    clear hgk
    by_cases hlt : k < q
    · have hHk := hSk.holds hg hH (by omega)
      have A1 := at4_of hHk (i := a + k) (by omega)
      have A2 := at4_of hHk (i := b + k) (by omega)
      have hsw := (hSk.swap (encE_len E) hg (a + k) (b + k) (by omega) (by omega)).drew
      simp only [encE, Key.cells, World.setCells, Nat.zero_add] at hsw
      have HV : Hid (∀ t, (swp dk (a + k) (b + k))[t]! = if a ≤ t ∧ t < a + (k + 1) then d[t + (b - a)]! else if b ≤ t ∧ t < b + (k + 1) then d[t - (b - a)]! else d[t]!) := by
        intro t
        rw [swp_get dk (by omega) (by omega), hv.out, hv.out, hv.out]
        by_cases p : t = b + k
        · subst p
          rw [if_pos rfl, if_neg (by omega), if_neg (by omega), if_neg (by omega), if_pos (by omega), show b + k - (b - a) = a + k by omega]
        · by_cases r : t = a + k
          · subst r
            rw [if_neg p, if_pos rfl, if_neg (by omega), if_neg (by omega), if_pos (by omega), show a + k + (b - a) = b + k by omega]
          · rw [if_neg p, if_neg r]
            repeat' split
            all_goals first | rfl | (exfalso; omega)
      have hdk' : (swp dk (a + k) (b + k)).size = d.size := by rw [size_swp]; exact hdk
      generalize swp dk (a + k) (b + k) = dk' at *
      generalize E dk[a + k]! = x at *
      generalize E dk[b + k]! = y at *
      obtain ⟨x0, x1, x2, x3, x4, x5, x6, x7⟩ := x
      obtain ⟨y0, y1, y2, y3, y4, y5, y6, y7⟩ := y
      obtain ⟨a0, a1, a2, a3, b0, b1, b2, b3⟩ := A1
      obtain ⟨c0, c1, c2, c3, e0, e1, e2, e3⟩ := A2
      simp only at a0 a1 a2 a3 c0 c1 c2 c3 hsw
      have HSW : Hid _ := hsw
      clear hsw hHk hSk
      go_wp2_with fail
      go_region
      all_goals go_wp2_with fail
      go_roundg (q - (k + 1))
      case measure => have := HG.out; omega
      case rel => exact ⟨k + 1, rfl, by omega, by go_num, dk', hdk', HSW.out, HV.out⟩
    · obtain rfl : q = k := by omega
      go_wp2_with fail
      go_end0
      exact ⟨rfl, dk, hdk, hSk, hv.out⟩
def SwapF (d d' : Array Nat) (a b q : Nat) : Prop := ∀ t, d'[t]! = if a ≤ t ∧ t < a + q then d[t + (b - a)]! else if b ≤ t ∧ t < b + q then d[t - (b - a)]! else d[t]!
/-- T is dk with its parts [s, m), [m, e) exchanged. -/
structure RotF (dk : Array Nat) (T : Nat → Nat) (s m e : Nat) : Prop where
  lo : ∀ t, s ≤ t → t < s + (e - m) → T t = dk[t + (m - s)]!
  hi : ∀ t, s + (e - m) ≤ t → t < e → T t = dk[t - (e - m)]!
  out : ∀ t, t < s ∨ e ≤ t → T t = dk[t]!
theorem RotF.stepL {dk dk' : Array Nat} {T : Nat → Nat} {s m e : Nat} (h : RotF dk T s m e) (h1 : s ≤ m) (h2 : m ≤ e) (h3 : e - m < m - s) (hs : SwapF dk dk' s m (e - m)) : RotF dk' T (s + (e - m)) m e := by
  refine ⟨fun t t1 t2 => ?_, fun t t1 t2 => ?_, fun t ht => ?_⟩
  · rw [h.hi t t1 (by omega), hs, if_neg (by omega), if_pos (by omega)]
    congr 1; omega
  · rw [h.hi t (by omega) t2, hs, if_neg (by omega), if_neg (by omega)]
  · rw [hs]
    by_cases p : s ≤ t ∧ t < s + (e - m)
    · rw [if_pos p, h.lo t p.1 p.2]
    · rw [if_neg p, if_neg (by omega), h.out t (by omega)]
theorem RotF.stepR {dk dk' : Array Nat} {T : Nat → Nat} {s m e : Nat} (h : RotF dk T s m e) (h1 : s ≤ m) (h2 : m ≤ e) (h3 : m - s < e - m) (hs : SwapF dk dk' s (e - (m - s)) (m - s)) : RotF dk' T s m (e - (m - s)) := by
  refine ⟨fun t t1 t2 => ?_, fun t t1 t2 => ?_, fun t ht => ?_⟩
  · rw [h.lo t t1 (by omega), hs, if_neg (by omega), if_neg (by omega)]
  · rw [h.lo t (by omega) (by omega), hs, if_pos (by omega)]
    congr 1; omega
  · rw [hs]
    by_cases p : e - (m - s) ≤ t ∧ t < e - (m - s) + (m - s)
    · rw [if_neg (by omega), if_pos p, h.hi t (by omega) (by omega)]
      congr 1; omega
    · rw [if_neg (by omega), if_neg p, h.out t (by omega)]
theorem RotF.last {dk dk' : Array Nat} {T : Nat → Nat} {s m e : Nat} (h : RotF dk T s m e) (h1 : s ≤ m) (h2 : m ≤ e) (h3 : m - s = e - m) (hs : SwapF dk dk' s m (m - s)) : ∀ t, T t = dk'[t]! := by
  intro t
  rw [hs]
  by_cases p : s ≤ t ∧ t < s + (m - s)
  · rw [if_pos p, h.lo t p.1 (by omega)]
  · rw [if_neg p]
    by_cases q : m ≤ t ∧ t < m + (m - s)
    · rw [if_pos q, h.hi t (by omega) (by omega)]
      congr 1; omega
    · rw [if_neg q, h.out t (by omega)]
def rotT (d : Array Nat) (a m b : Nat) : Nat → Nat := fun t => if a ≤ t ∧ t < a + (b - m) then d[t + (m - a)]! else if a + (b - m) ≤ t ∧ t < b then d[t - (b - m)]! else d[t]!
theorem rotT_start (d : Array Nat) {a m b : Nat} (h1 : a ≤ m) (h2 : m ≤ b) : RotF d (rotT d a m b) a m b := by
  refine ⟨fun t t1 t2 => ?_, fun t t1 t2 => ?_, fun t ht => ?_⟩
  · unfold rotT; rw [if_pos ⟨t1, t2⟩]
  · unfold rotT; rw [if_neg (by omega), if_pos ⟨t1, t2⟩]
  · unfold rotT; rw [if_neg (by omega), if_neg (by omega)]
theorem rot_of {d d' : Array Nat} {a m b : Nat} (hsz : d'.size = d.size) (h1 : a ≤ m) (h2 : m ≤ b) (h : ∀ t, rotT d a m b t = d'[t]!) : Rot d d' a m b := by
  have hr := rotT_start d h1 h2
  exact ⟨hsz, fun t t1 t2 => by rw [← h, hr.lo t t1 t2], fun t t1 t2 => by rw [← h, hr.hi t t1 t2], fun t ht => by rw [← h, hr.out t ht]⟩
set_option maxRecDepth 100000 in
set_option maxHeartbeats 400000 in
theorem rotate_any (E : Nat → Key) (g n cap a m b : Nat) (cv : Value) (W0 : World) (d0 d : Array Nat) (w : World) (hH : HoldsK (encE E) 4 W0 g 0 d0) (hg : g < W0.heap.size) (hn : d.size = n) (hs : d.size = d0.size) (hS : SWK (encE E) 4 W0 g 0 d w) (hsz : n ≤ 1000000) (h1 : a < m) (h2 : m < b) (h3 : b ≤ n) :
    Calls Yba.prog 28 #[.slice (some ⟨g, 0, none⟩) n cap, .int .i64 a, .int .i64 m, .int .i64 b, cv] w fun e w' => e = .returned (.tuple #[]) ∧ ∃ d', SWK (encE E) 4 W0 g 0 d' w' ∧ Rot d d' a m b := by
  have HH : Hid (HoldsK (encE E) 4 W0 g 0 d0) := hH
  have HS : Hid (SWK (encE E) 4 W0 g 0 d w) := hS
  clear hH hS
  go_enter Yba.func28, Yba.ntmps28
  go_wp2_with fail
  go_loopg [10, 11] (b - a) (fun g' vi vj wr => ∃ i j : Nat, i + j ≤ g' ∧ 0 < i ∧ 0 < j ∧ a + i ≤ m ∧ m + j ≤ b ∧ vi = .int .i64 i ∧ vj = .int .i64 j ∧ ∃ dk, dk.size = d.size ∧ SWK (encE E) 4 W0 g 0 dk wr ∧ RotF dk (rotT d a m b) (m - i) m (m + j))
  case atStart => exact ⟨m - a, b - m, by omega, by omega, by omega, by omega, by omega, by congr 1; omega, by congr 1; omega, d, rfl, HS.out, by rw [show m - (m - a) = a by omega, show m + (b - m) = b by omega]; exact rotT_start d (by omega) (by omega)⟩
  case round =>
    obtain ⟨i, j, hij, hi, hj, hia, hjb, rfl, rfl, dk, hdk, hSk, hR⟩ := hrel
    have HR : Hid (RotF dk (rotT d a m b) (m - i) m (m + j)) := hR
    have em : m - (m - i) = i := by omega
    have en : m + j - m = j := by omega
    have ez : ((m : Int) - (i : Int)) = ((m - i : Nat) : Int) := by omega
    clear hR
    by_cases e : i = j
    · subst e
      have T := swapRange_any E g n cap (m - i) m i cv W0 d0 dk wr HH.out hg (by omega) (by omega) hSk hsz (by omega) (by omega)
      go_wp2_with fail
      refine T.mono ?_
      rintro e w1 ⟨rfl, d1, hd1, hS1, hv1⟩
      go_wp2_with fail
      go_end0
      refine ⟨rfl, d1, hS1, rot_of (hd1.trans hdk) (by omega) (by omega) (HR.out.last (by omega) (by omega) (by omega) ?_)⟩
      rw [em]; exact hv1
    · by_cases hlt : j < i
      · have T := swapRange_any E g n cap (m - i) m j cv W0 d0 dk wr HH.out hg (by omega) (by omega) hSk hsz (by omega) (by omega)
        have hne : ((i : Int) == (j : Int)) = false := by simp; omega
        go_wp2_with fail
        refine T.mono ?_
        rintro e w1 ⟨rfl, d1, hd1, hS1, hv1⟩
        have HV : Hid (SwapF dk d1 (m - i) m j) := hv1
        clear T hv1
        go_wp2_with fail
        go_roundg (i - j + j)
        case measure => omega
        case rel =>
          refine ⟨i - j, j, by omega, by omega, hj, by omega, hjb, by congr 1; omega, rfl, d1, hd1.trans hdk, hS1, ?_⟩
          have := HR.out.stepL (dk' := d1) (by omega) (by omega) (by omega) (by rw [en]; exact HV.out)
          rwa [en, show m - i + j = m - (i - j) by omega] at this
      · have ez2 : ((m : Int) + (j : Int) - (i : Int)) = ((m + j - i : Nat) : Int) := by omega
        have T := swapRange_any E g n cap (m - i) (m + j - i) i cv W0 d0 dk wr HH.out hg (by omega) (by omega) hSk hsz (by omega) (by omega)
        have hne : ((i : Int) == (j : Int)) = false := by simp; omega
        go_wp2_with fail
        refine T.mono ?_
        rintro e w1 ⟨rfl, d1, hd1, hS1, hv1⟩
        have HV : Hid (SwapF dk d1 (m - i) (m + j - i) i) := hv1
        clear T hv1
        go_wp2_with fail
        go_roundg (i + (j - i))
        case measure => omega
        case rel =>
          refine ⟨i, j - i, by omega, hi, by omega, hia, by omega, rfl, by congr 1; omega, d1, hd1.trans hdk, hS1, ?_⟩
          have := HR.out.stepR (dk' := d1) (by omega) (by omega) (by omega) (by rw [em]; exact HV.out)
          rwa [em, show m + j - i = m + (j - i) by omega] at this
end Go.Proofs.Ybulkdkos
