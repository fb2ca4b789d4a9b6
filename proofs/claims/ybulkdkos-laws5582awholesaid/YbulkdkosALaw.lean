/-
  LawS5582AWhole: the walk of the law.
-/
import Derived.Test.YbulkdkosABuild
import Derived.Test.YbulkdkosALast
import Derived.Deep.CutBlock
import Derived.Deep.DeepCutAuto
namespace Go.Proofs.Ybulkdkos
open Go.RowKit Go.Sort Go.Proofs Go.Lib
set_option linter.unusedVariables false
set_option linter.unusedSimpArgs false
theorem holdsK_below {E : Nat → Key} {w w' : World} {g : Nat} {d : Array Nat} (h : HoldsK (encE E) 4 w g 0 d) (hb : Below w.heap.size w w') (hg : g < w.heap.size) : HoldsK (encE E) 4 w' g 0 d := by
  intro j hj
  have := h j hj
  refine ⟨by rw [hb.cell (p := ⟨g, 0 + j, none⟩) hg]; exact this.1, ?_⟩
  have e : w'.frozen? ⟨g, 0 + j, none⟩ = w.frozen? ⟨g, 0 + j, none⟩ := by unfold World.frozen?; rw [hb.block g hg]
  rw [e]; exact this.2
theorem Els.below {w w' : World} {g : Nat} {E : Nat → Key} {S V : Nat → List Int} (h : Els w g E S V) (hb : Below w.heap.size w w') : Els w' g E S V :=
  ⟨fun x => (h.s x).below hb, fun x => (h.v x).below hb, h.ns, h.nv, h.ls, h.lv⟩
/-- orig, work and the Comparer. -/
structure Base (w : World) (g1 g2 bx n : Nat) (E1 E2 : Nat → Key) (S V : Nat → List Int) (rev : Bool) : Prop where
  r1 : HoldsK (encE E1) 4 w g1 0 (Array.range n)
  r2 : HoldsK (encE E2) 4 w g2 0 (Array.range n)
  e1 : Els w g1 E1 S V
  e2 : Els w g2 E2 S V
  x : w.cell? ⟨bx, 0, none⟩ = some (.bool rev)
  lt1 : g1 < g2
  lt2 : g2 < bx
  lt3 : bx < w.heap.size
  kk : ∀ x, (E1 x).k = (E2 x).k ∧ (E1 x).s = (E2 x).s
  z : E2 n = zkey
theorem Base.below {w w' : World} {g1 g2 bx n : Nat} {E1 E2 : Nat → Key} {S V : Nat → List Int} {rev : Bool} (h : Base w g1 g2 bx n E1 E2 S V rev) (hb : Below w.heap.size w w') : Base w' g1 g2 bx n E1 E2 S V rev := by
  have l1 := h.lt1
  have l2 := h.lt2
  have l3 := h.lt3
  exact ⟨holdsK_below h.r1 hb (by omega), holdsK_below h.r2 hb (by omega), h.e1.below hb, h.e2.below hb, by rw [hb.cell (p := ⟨bx, 0, none⟩) l3]; exact h.x, l1, l2, Nat.lt_of_lt_of_le l3 hb.size, h.kk, h.z⟩
def upTo (n : Nat) (f : Nat → List Int) : Nat → List Int := fun x => if x < n then f x else []
theorem els_of_bld {g : Nat} {w0 w : World} {n : Nat} {P E : Nat → Key} {SB VB : Nat → List Int} (h : Bld g w0 w n n P E SB VB) : Els w g E (upTo n fun x => sufOf (SB x)) (upTo n VB) := by
  refine ⟨fun x => ?_, fun x => ?_, h.ns, h.nv, h.ls, h.lv⟩
  · by_cases p : x < n
    · simp only [upTo, if_pos p]; exact h.s x p
    · rw [h.rest x (by omega)]
      simp only [upTo, if_neg p, zkey]
      exact ⟨rfl, fun h => absurd h (by omega)⟩
  · by_cases p : x < n
    · simp only [upTo, if_pos p]; exact h.v x p
    · rw [h.rest x (by omega)]
      simp only [upTo, if_neg p, zkey]
      exact ⟨rfl, fun h => absurd h (by omega)⟩
theorem base_of {w w1 w2 : World} {n : Nat} {P E1 E2 : Nat → Key} {SB VB : Nat → List Int} (rev : Bool) (h1 : Bld w.heap.size w w1 n n P E1 SB VB) (h2 : Bld w1.heap.size w1 w2 n n P E2 SB VB) :
    Base (w2.alloc (.cells #[.bool rev] 28)) w.heap.size w1.heap.size w2.heap.size n E1 E2 (upTo n fun x => sufOf (SB x)) (upTo n VB) rev ∧ Below w.heap.size w (w2.alloc (.cells #[.bool rev] 28)) ∧ Els w1 w.heap.size E1 (upTo n fun x => sufOf (SB x)) (upTo n VB) ∧ Below w1.heap.size w1 (w2.alloc (.cells #[.bool rev] 28)) := by
  have hb3 : Below w2.heap.size w2 (w2.alloc (.cells #[.bool rev] 28)) := (Below.refl _ _).alloc (Nat.le_refl _) _
  have l1 := h1.lt
  have l2 := h2.lt
  have h1' := (h1.below h2.bel (by omega)).below hb3 (by omega)
  have h2' := h2.below hb3 (by omega)
  refine ⟨⟨h1'.row, h2'.row, els_of_bld h1', els_of_bld h2', by simp, by omega, by omega, by simp, fun x => ?_, h2.rest n (Nat.le_refl _)⟩, h1'.bel, els_of_bld h1, h2'.bel⟩
  by_cases p : x < n
  · rw [(h1.kk x p).1, (h1.kk x p).2, (h2.kk x p).1, (h2.kk x p).2]; exact ⟨rfl, rfl⟩
  · rw [h1.rest x (by omega), h2.rest x (by omega)]; exact ⟨rfl, rfl⟩
def hidZ : Option Nat → Int | none => -1 | some h => h
/-- What the search for the hider has found. -/
structure Found (E : Nat → Key) (snap : Int) (n : Nat) (hid : Option Nat) : Prop where
  hidn : ∀ j, j < hid.getD n → ¬ hidP E snap j
  hids : ∀ h, hid = some h → h < n ∧ hidP E snap h
theorem Found.le {E : Nat → Key} {snap : Int} {n : Nat} {hid : Option Nat} (h : Found E snap n hid) : hid.getD n ≤ n := by
  cases hid with
  | none => exact Nat.le_refl _
  | some x => exact Nat.le_of_lt (h.hids x rfl).1
abbrev intV (x : Nat) : Value := .int .i64 (x : Int)
theorem Yba.info3 : (Yba.prog.info? 3).map (fun i => (i.zero, i.size, i.bytes)) = some (some (.int .i64 0), 1, 8) := by kernel_rfl
theorem flat_get (E : Nat → Key) : ∀ (l : List Nat) (t c : Nat), t < l.length → c < 4 → (l.flatMap (encE E))[t * 4 + c]? = (encE E l[t]!)[c]?
  | x :: l, 0, c, _, hc => by
    rw [List.flatMap_cons, Nat.zero_mul, Nat.zero_add, List.getElem?_append_left (by rw [encE_len]; exact hc)]
    rfl
  | x :: l, t + 1, c, ht, hc => by
    rw [List.flatMap_cons, List.getElem?_append_right (by rw [encE_len]; omega), encE_len, show (t + 1) * 4 + c - 4 = t * 4 + c by omega, flat_get E l t c (by simpa using ht) hc]
    simp
theorem flat_len (E : Nat → Key) : ∀ l : List Nat, (l.flatMap (encE E)).length = l.length * 4
  | [] => rfl
  | x :: l => by rw [List.flatMap_cons, List.length_append, encE_len, flat_len E l, List.length_cons]; omega
/-- The kept keys' cells. -/
theorem kept_cells {E : Nat → Key} {w : World} {B : Nat} {kp : List Nat} {ao : Option Addr} {cc : Nat} (h : w.ownsRow B 33 4 (.slice ao kp.length cc) kp.length (kp.flatMap (encE E))) (hk : 0 < kp.length) : ∃ g, ao = some ⟨g, 0, none⟩ ∧ B ≤ g ∧ g < w.heap.size ∧ (∀ t c v, t < kp.length → c < 4 → (encE E kp[t]!)[c]? = some v → w.cell? ⟨g, t * 4 + c, none⟩ = some v) ∧ ∀ j, w.frozen? ⟨g, j, none⟩ = false := by
  rcases h.2 with ⟨h1, h2⟩ | ⟨g, cap, cur, h1, h2, h3, h4, h5, h6, h7⟩
  · omega
  · cases h1
    have hb : Blk w g cur 33 := h3
    refine ⟨g, rfl, h2, hb.lt, fun t c v ht hc hv => ?_, fun j => hb.frozen j⟩
    refine hb.cell ?_
    rw [← flat_get E kp t c ht hc, ← h7, List.getElem?_take_of_lt (by omega), Array.getElem?_toList] at hv
    exact hv
theorem holds_of_kept {E : Nat → Key} {w : World} {g : Nat} {kp : List Nat} (hc : ∀ t c v, t < kp.length → c < 4 → (encE E kp[t]!)[c]? = some v → w.cell? ⟨g, t * 4 + c, none⟩ = some v) (hf : ∀ j, w.frozen? ⟨g, j, none⟩ = false) : HoldsK (encE E) 4 w g 0 kp.toArray := by
  intro j hj
  have hj' : j < kp.length * 4 := by simpa using hj
  rw [Nat.zero_add]
  refine ⟨?_, hf j⟩
  rw [get_flatK _ _ _ _ (by simpa using hj')]
  have ht : j / 4 < kp.length := by omega
  have e1 : kp.toArray[j / 4]! = kp[j / 4]! := by simp [ht]
  rw [e1]
  have := hc (j / 4) (j % 4) ((encE E kp[j / 4]!)[j % 4]!) ht (by omega) (by
    generalize kp[j / 4]! = x
    have h4 : j % 4 = 0 ∨ j % 4 = 1 ∨ j % 4 = 2 ∨ j % 4 = 3 := by omega
    rcases h4 with h | h | h | h <;> rw [h] <;> rfl)
  rw [show j / 4 * 4 + j % 4 = j by omega] at this
  exact this
theorem swp_comm' (d : Array Nat) (i j : Nat) (hi : i < d.size) (hj : j < d.size) : swp d i j = swp d j i := by
  refine Array.ext (by rw [size_swp, size_swp]) fun t h1 h2 => ?_
  have e1 := swp_get d hi hj t
  have e2 := swp_get d hj hi t
  rw [getElem!_pos (swp d i j) t h1] at e1
  rw [getElem!_pos (swp d j i) t h2] at e2
  rw [e1, e2]
  by_cases p : t = i <;> by_cases q : t = j
  · rw [← p, ← q]
  · rw [if_neg q, if_pos p, if_pos p]
  · rw [if_pos q, if_neg p, if_pos q]
  · rw [if_neg q, if_neg p, if_neg p, if_neg q]
theorem below_fr {B g : Nat} {w0 w w' : World} (h : Below B w0 w) (hf : Fr g w w') (hg : B ≤ g) (hs : B ≤ w.heap.size) : Below B w0 w' :=
  ⟨hf.os.trans h.os, hf.tape.trans h.tape, hf.output.trans h.output, Nat.le_trans h.size hf.size, fun k hk => (hf.heap k (by omega) (by omega)).trans (h.block k hk)⟩
theorem holdsK_fr {E : Nat → Key} {w w' : World} {g g2 : Nat} {d : Array Nat} (h : HoldsK (encE E) 4 w g 0 d) (hf : Fr g2 w w') (hne : g ≠ g2) (hg : g < w.heap.size) : HoldsK (encE E) 4 w' g 0 d := by
  intro j hj
  have := h j hj
  refine ⟨by rw [hf.cell _ hne hg]; exact this.1, ?_⟩
  have e : w'.frozen? ⟨g, 0 + j, none⟩ = w.frozen? ⟨g, 0 + j, none⟩ := by unfold World.frozen?; rw [hf.heap g hg hne]
  rw [e]; exact this.2
/-- What stands behind decide. -/
structure Zs (Wz : World) (g1 g2 n L D R : Nat) (ak : Option Addr) (E1 E2 : Nat → Key) (S V : Nat → List Int) (hid : Option Nat) (d3 d4 : Array Nat) : Prop where
  e1 : Els Wz g1 E1 S V
  e2 : Els Wz g2 E2 S V
  r1 : HoldsK (encE E1) 4 Wz g1 0 (Array.range n)
  r2 : HoldsK (encE E2) 4 Wz g2 0 d3
  r4 : 0 < D → ∃ gk, ak = some ⟨gk, 0, none⟩ ∧ gk < Wz.heap.size ∧ HoldsK (encE E1) 4 Wz gk 0 d4
  l1 : g1 < Wz.heap.size
  l2 : g2 < Wz.heap.size
  kk : ∀ x, (E1 x).k = (E2 x).k ∧ (E1 x).s = (E2 x).s
  z : E2 n = zkey
  s3 : d3.size = n
  s4 : d4.size = D
  dl : D ≤ L
  ln : L ≤ n
  rn : R ≤ n
  rd : R = D + (if hid.isSome then 1 else 0)
  lo : ∀ t, t < D → d3[t]! = d4[t]! ∧ d4[t]! < n
  hh : ∀ h, hid = some h → d3[D]! = h ∧ h < n
  zz : ∀ t, R ≤ t → t < L → d3[t]! = n
  hi : ∀ t, R ≤ t → L ≤ t → t < n → d3[t]! = t
theorem Zs.below {Wz w' : World} {g1 g2 n L D R : Nat} {ak : Option Addr} {E1 E2 : Nat → Key} {S V : Nat → List Int} {hid : Option Nat} {d3 d4 : Array Nat} (h : Zs Wz g1 g2 n L D R ak E1 E2 S V hid d3 d4) (hb : Below Wz.heap.size Wz w') : Zs w' g1 g2 n L D R ak E1 E2 S V hid d3 d4 :=
  ⟨h.e1.below hb, h.e2.below hb, holdsK_below h.r1 hb h.l1, holdsK_below h.r2 hb h.l2, fun hd => by
    obtain ⟨gk, k1, k2, k3⟩ := h.r4 hd
    exact ⟨gk, k1, Nat.lt_of_lt_of_le k2 hb.size, holdsK_below k3 hb k2⟩, Nat.lt_of_lt_of_le h.l1 hb.size, Nat.lt_of_lt_of_le h.l2 hb.size, h.kk, h.z, h.s3, h.s4, h.dl, h.ln, h.rn, h.rd, h.lo, h.hh, h.zz, h.hi⟩
theorem lvUp_congr {E1 E2 : Nat → Key} (h : ∀ x, (E1 x).k = (E2 x).k ∧ (E1 x).s = (E2 x).s) (snap : Int) (i : Nat) : lvUp E2 snap i = lvUp E1 snap i := by
  unfold lvUp
  congr 1
  funext j
  unfold liveB
  rw [(h j).1, (h j).2]
theorem hidP_congr {E1 E2 : Nat → Key} (h : ∀ x, (E1 x).k = (E2 x).k ∧ (E1 x).s = (E2 x).s) (snap : Int) (i : Nat) : hidP E2 snap i ↔ hidP E1 snap i := by
  unfold hidP
  rw [(h i).1, (h i).2]
theorem hid_eq {E1 E2 : Nat → Key} (hk : ∀ x, (E1 x).k = (E2 x).k ∧ (E1 x).s = (E2 x).s) {snap : Int} {n : Nat} {h1 h2 : Option Nat} (f : Found E1 snap n h1) (a : ∀ j, j < h2.getD n → ¬ hidP E2 snap j) (b : ∀ h, h2 = some h → h < n ∧ hidP E2 snap h) : h2 = h1 := by
  cases h1 with
  | none =>
    cases h2 with
    | none => rfl
    | some y => exact absurd ((hidP_congr hk snap y).1 (b y rfl).2) (f.hidn y (b y rfl).1)
  | some x =>
    cases h2 with
    | none => exact absurd ((hidP_congr hk snap x).2 (f.hids x rfl).2) (a x (f.hids x rfl).1)
    | some y =>
      have e1 : ¬ x < y := fun h => a x h ((hidP_congr hk snap x).2 (f.hids x rfl).2)
      have e2 : ¬ y < x := fun h => f.hidn y h ((hidP_congr hk snap y).1 (b y rfl).2)
      have : x = y := by omega
      rw [this]
set_option maxRecDepth 100000 in
theorem aeq_grow (p q : Key) (s v : List Int) (w : World) (hk : p.k = q.k) (hs : p.s = q.s) (p1 : BytesAt w p.sa p.sl s) (p2 : BytesAt w p.va p.vl v) (q1 : BytesAt w q.sa q.sl s) (q2 : BytesAt w q.va q.vl v) :
    Calls Yba.prog 9 #[.agg p.cells.toArray, .agg q.cells.toArray] w fun e w' => e = .returned (.bool true) ∧ ∃ m os, w' = grow (w.drewN m) os := by
  obtain ⟨x0, x1, x2, x3, x4, x5, x6, x7⟩ := p
  obtain ⟨y0, y1, y2, y3, y4, y5, y6, y7⟩ := q
  simp only [Key.cells] at *
  subst hk
  subst hs
  obtain rfl : x3 = y3 := p1.1.symm.trans q1.1
  obtain rfl : x6 = y6 := p2.1.symm.trans q2.1
  have T1 := fun o1 o2 => bytesEqual_same x2 x3 x4 y2 y4 s ((w.alloc o1).alloc o2) (p1.alloc2 o1 o2) (q1.alloc2 o1 o2)
  have T2 := fun o1 o2 => bytesEqual_same x5 x6 x7 y5 y7 v ((w.alloc o1).alloc o2) (p2.alloc2 o1 o2) (q2.alloc2 o1 o2)
  clear p1 p2 q1 q2
  go_enter Yba.func9, Yba.ntmps9
  go_wp2_with fail
  refine (T1 _ _).mono ?_
  rintro e w1 ⟨rfl, rfl⟩
  clear T1
  go_wp2_with fail
  refine (T2 _ _).mono ?_
  rintro e w1 ⟨rfl, rfl⟩
  clear T2
  go_wp2_with fail
  go_ret
  exact ⟨rfl, 0, _, grow_alloc2 _ _ _ 0⟩
theorem below_grown (w : World) (m : Nat) (os : Array Obj) : Below w.heap.size w (grow (w.drewN m) os) :=
  ⟨rfl, rfl, rfl, by rw [size_grow]; show w.heap.size ≤ w.heap.size + _; omega, fun k hk => by rw [heap_grow_old _ _ (by exact hk)]; rfl⟩
/-- A key's cells in every world that a comparison passes through. -/
structure AtG (w : World) (g i : Nat) (q : Key) : Prop where
  c0 : ∀ m os, (grow (w.drewN m) os).cell? ⟨g, i * 4, none⟩ = some (.int .u8 q.k)
  c1 : ∀ m os, (grow (w.drewN m) os).cell? ⟨g, i * 4 + 1, none⟩ = some (.int .u64 q.s)
  c2 : ∀ m os, (grow (w.drewN m) os).cell? ⟨g, i * 4 + 2, none⟩ = some (.slice q.sa q.sl q.sc)
  c3 : ∀ m os, (grow (w.drewN m) os).cell? ⟨g, i * 4 + 3, none⟩ = some (.slice q.va q.vl q.vc)
theorem atG_of {E : Nat → Key} {w : World} {g : Nat} {d : Array Nat} (h : HoldsK (encE E) 4 w g 0 d) (hg : g < w.heap.size) {i x : Nat} (hi : i < d.size) (hx : d[i]! = x) : AtG w g i (E x) := by
  have A := fun m os => at4_of (holdsK_below h (below_grown w m os) hg) hi
  rw [hx] at A
  exact ⟨fun m os => (A m os).c0, fun m os => (A m os).c1, fun m os => (A m os).c2, fun m os => (A m os).c3⟩
theorem aeq_call {w : World} {g1 g2 : Nat} {E1 E2 : Nat → Key} {S V : Nat → List Int} (h1 : Els w g1 E1 S V) (h2 : Els w g2 E2 S V) (hk : ∀ x, (E1 x).k = (E2 x).k ∧ (E1 x).s = (E2 x).s) (x : Nat) : ∀ m os, Calls Yba.prog 9 #[.agg (E2 x).cells.toArray, .agg (E1 x).cells.toArray] (grow (w.drewN m) os) fun e w' => e = .returned (.bool true) ∧ ∃ q os', w' = grow ((grow (w.drewN m) os).drewN q) os' := fun m os => by
  have b1 := h1.below (below_grown w m os)
  have b2 := h2.below (below_grown w m os)
  exact aeq_grow (E2 x) (E1 x) (S x) (V x) _ (hk x).1.symm (hk x).2.symm (b2.s x) (b2.v x) (b1.s x) (b1.v x)
theorem var_cells (w : World) (q : Key) (c : Nat) (v : Value) (hv : q.cells[c]? = some v) : ∀ m os, (grow ((w.alloc (.cells q.cells.toArray 33)).drewN m) os).cell? ⟨w.heap.size, c, none⟩ = some v := fun m os => by
  have hb := Blk.new w q.cells.toArray 33
  have hb2 := (hb.drewN m).below (below_grown _ 0 os) (by exact hb.lt)
  exact hb2.cell (by simpa using hv)
set_option maxRecDepth 100000 in
set_option maxHeartbeats 400000000 in
theorem whole_walk (a : Option Addr) (n c : Nat) (snap : Int) (rev : Bool) (P : Nat → Key) (SB VB : Nat → List Int) (w : World) (hI : n ≤ 4096 → Inp w a n P SB VB) :
    Calls Yba.prog 3 #[.slice a n c, .int .u64 snap, .bool rev] w fun e w' => e = .returned (.bool true) ∧ Below w.heap.size w w' := by
  by_cases hn : n ≤ 4096
  rotate_left
  · have hgt : decide ((4096 : Int) < (n : Int)) = true := by simp; omega
    go_enter Yba.func3, Yba.ntmps3
    go_wp2_with fail
    go_ret
    exact ⟨rfl, Below.refl _ _⟩
  have T1 := build_any a n c P SB VB w hn (hI hn)
  have HI : Hid (Inp w a n P SB VB) := hI hn
  clear hI
  have mx := mixed
  go_enter Yba.func3, Yba.ntmps3
  go_wp2_with fail
  refine T1.mono ?_
  rintro e w1 ⟨E1, rfl, hB1⟩
  clear T1
  have T2 := build_any a n c P SB VB w1 hn (HI.out.below hB1.bel)
  have HB1 : Hid (Bld w.heap.size w w1 n n P E1 SB VB) := hB1
  clear hB1
  go_wp2_with fail
  refine T2.mono ?_
  rintro e w2 ⟨E2, rfl, hB2⟩
  clear T2
  obtain ⟨hBase, hBel, hE1w, hBw1⟩ := base_of rev HB1.out hB2
  clear hB2 HB1 HI
  generalize upTo n (fun x => sufOf (SB x)) = S at *
  generalize upTo n VB = V at *
  have HE1 : Hid (Els w1 w.heap.size E1 S V ∧ Below w1.heap.size w1 (w2.alloc (.cells #[.bool rev] 28))) := ⟨hE1w, hBw1⟩
  clear hE1w hBw1
  have HBase : Hid (Base (w2.alloc (.cells #[.bool rev] 28)) w.heap.size w1.heap.size w2.heap.size n E1 E2 S V rev ∧ Below w.heap.size w (w2.alloc (.cells #[.bool rev] 28))) := ⟨hBase, hBel⟩
  clear hBase hBel
  go_upto_block 0 with fail
  obtain ⟨W3, hW3⟩ : ∃ W, W = w2.alloc (.cells #[.bool rev] 28) := ⟨_, rfl⟩
  rw [← hW3] at HBase HE1 ⊢
  clear hW3
  go_cut [10, 11] (fun v10 v11 wx => ∃ hid, v10 = .int .i64 (hidZ hid) ∧ Found E1 snap n hid ∧ Below W3.heap.size W3 wx ∧ wx.ownsRow W3.heap.size 3 1 v11 (lvUp E1 snap (hid.getD n)).length ((lvUp E1 snap (hid.getD n)).map intV))
  case first =>
    as_aux_lemma =>
      obtain ⟨i0, hi0, hz0, hz1, hz2⟩ := info_parts Yba.info3
      go_wp2_with fail
      go_loopg [10, 11, 12] n (fun g' v10 v11 v12 wr => ∃ i : Nat, n - i ≤ g' ∧ i ≤ n ∧ v10 = .int .i64 (-1) ∧ v12 = .int .i64 i ∧ Below W3.heap.size W3 wr ∧ wr.ownsRow W3.heap.size 3 1 v11 (lvUp E1 snap i).length ((lvUp E1 snap i).map intV) ∧ ∀ j, j < i → ¬ hidP E1 snap j)
      case atStart => exact ⟨0, by omega, by omega, rfl, rfl, Below.refl _ _, ⟨rfl, Or.inl ⟨rfl, rfl⟩⟩, fun j hj => absurd hj (by omega)⟩
      case round =>
        obtain ⟨i, hgi, hin, rfl, rfl, hbel, hown, hnh⟩ := hrel
        have hLi := lvUp_len E1 snap i
        obtain ⟨ao, cc, rfl⟩ := owns_shape hown
        have HK : Hid (Below W3.heap.size W3 wr ∧ ∀ j, j < i → ¬ hidP E1 snap j) := ⟨hbel, hnh⟩
        have HO : Hid (wr.ownsRow W3.heap.size 3 1 (.slice ao (lvUp E1 snap i).length cc) (lvUp E1 snap i).length ((lvUp E1 snap i).map intV)) := hown
        have hszr : W3.heap.size ≤ wr.heap.size := hbel.size
        obtain ⟨L, hL⟩ : ∃ L, (lvUp E1 snap i).length = L := ⟨_, rfl⟩
        rw [hL] at hLi ⊢
        have HL : Hid ((lvUp E1 snap i).length = L) := hL
        have HO2 : Hid (wr.ownsRow W3.heap.size 3 1 (.slice ao L cc) (lvUp E1 snap i).length ((lvUp E1 snap i).map intV)) := by have := HO.out; rw [hL] at this; rw [hL]; exact this
        by_cases hlt : i < n
        · have hA := at4_of (HBase.out.1.below hbel).r1 (i := i) (by simpa using hlt)
          rw [show (Array.range n)[i]! = i by simp [hlt]] at hA
          obtain ⟨x, hx⟩ : ∃ x, E1 i = x := ⟨_, rfl⟩
          rw [hx] at hA
          have HX : Hid (E1 i = x) := hx
          obtain ⟨x0, x1, x2, x3, x4, x5, x6, x7⟩ := x
          obtain ⟨a0, a1, a2, a3, f0, f1, f2, f3⟩ := hA
          simp only at a0 a1
          clear a2 a3 f0 f1 f2 f3 hx hbel hown hnh hL
          by_cases h1 : x1 < snap
          · by_cases h2 : x0 = 19
            · have q2 : (x0 == 19) = true := by simp [h2]
              have HH2 : Hid (x0 = 19) := h2
              clear h2
              go_wp2_with fail
              go_meet
              case rel =>
                refine ⟨some i, rfl, ⟨HK.out.2, fun h e => ?_⟩, HK.out.1, ?_⟩
                · cases e
                  exact ⟨hlt, by unfold hidP; rw [HX.out]; exact ⟨h1, HH2.out⟩⟩
                · exact HO2.out
            · have q2 : (x0 == 19) = false := by simpa using h2
              have HNH : Hid (¬ hidP E1 snap i) := by show ¬ _; unfold hidP; rw [HX.out]; simp; omega
              by_cases h3 : x0 = 21 ∨ x0 = 20
              · have HLV : Hid (liveB E1 snap i = true) := by show _ = _; unfold liveB; rw [HX.out]; simp; omega
                have hoa := fun ob => HO.out.alloc ob
                have FIN : Hid (∀ (v' : Value) (w' : World), w'.ownsRow W3.heap.size 3 1 v' (L + 1) ((lvUp E1 snap i).map intV ++ [intV i]) → w'.ownsRow W3.heap.size 3 1 v' (lvUp E1 snap (i + 1)).length ((lvUp E1 snap (i + 1)).map intV)) := fun v' w' h => by
                  rw [lvUp_succ, HLV.out]
                  simp only [if_true, List.length_append, List.map_append, HL.out, List.map_cons, List.map_nil, List.length_cons, List.length_nil]
                  exact h
                have FB : Hid (∀ (ob : Obj) (w' : World), (wr.alloc ob).grownBy w' (Value.slice ao L cc).ownBlock → Below W3.heap.size W3 w') := fun ob w' hg => by
                  have hr : ∀ q, (Value.slice ao L cc).ownBlock = some q → W3.heap.size ≤ q := fun q hq => (HO.out.lt q (by rw [← hq]; cases ao <;> rfl)).1
                  exact (HK.out.1.alloc hszr ob).grown hg (by simp; omega) hr
                rw [HL.out] at hoa
                have HOA : Hid _ := hoa
                clear h2 hoa
                by_cases h4 : x0 = 21
                · have q3 : (x0 == 21) = true := by simp [h4]
                  clear h3 h4
                  go_wp2_with (at_builtin; go_loud (refine wpList_append_own _ rfl (.tmp 72) (.tmp 74) 29 rfl W3.heap.size 3 i0 (.int .i64 0) 1 8 Yba.underlying29 hi0 hz0 hz1 hz2 rfl (by decide) _ L ((lvUp E1 snap i).map intV) rfl (HOA.out _) _ 1 1 [intV i] rfl rfl ?c1 ?c2 ?c3 ?c4 ?c5 ?_))
                  case c1 => refine news_one ?_; simp [go_sem]
                  case c2 => simp [Value.oneCell']
                  case c3 => unfold maxLen; omega
                  case c4 => omega
                  case c5 => simp; omega
                  intro v' w' hown1 hg1 _
                  obtain ⟨ao', cc', rfl⟩ := owns_shape hown1
                  have R1 : Hid _ := FIN.out _ _ hown1
                  have R2 : Hid (Below W3.heap.size W3 w') := FB.out _ _ hg1
                  clear hown1 hg1
                  go_wp2_with fail
                  go_roundg (n - (i + 1))
                  case measure => omega
                  case rel => exact ⟨i + 1, by omega, by omega, rfl, by go_num, R2.out, R1.out, fun j hj => by
                    by_cases p : j = i
                    · subst p; exact HNH.out
                    · exact HK.out.2 j (by omega)⟩
                · have q3 : (x0 == 21) = false := by simpa using h4
                  have q4 : (x0 == 20) = true := by simp; omega
                  clear h3 h4
                  go_wp2_with (at_builtin; go_loud (refine wpList_append_own _ rfl (.tmp 72) (.tmp 74) 29 rfl W3.heap.size 3 i0 (.int .i64 0) 1 8 Yba.underlying29 hi0 hz0 hz1 hz2 rfl (by decide) _ L ((lvUp E1 snap i).map intV) rfl (HOA.out _) _ 1 1 [intV i] rfl rfl ?c1 ?c2 ?c3 ?c4 ?c5 ?_))
                  case c1 => refine news_one ?_; simp [go_sem]
                  case c2 => simp [Value.oneCell']
                  case c3 => unfold maxLen; omega
                  case c4 => omega
                  case c5 => simp; omega
                  intro v' w' hown1 hg1 _
                  obtain ⟨ao', cc', rfl⟩ := owns_shape hown1
                  have R1 : Hid _ := FIN.out _ _ hown1
                  have R2 : Hid (Below W3.heap.size W3 w') := FB.out _ _ hg1
                  clear hown1 hg1
                  go_wp2_with fail
                  go_roundg (n - (i + 1))
                  case measure => omega
                  case rel => exact ⟨i + 1, by omega, by omega, rfl, by go_num, R2.out, R1.out, fun j hj => by
                    by_cases p : j = i
                    · subst p; exact HNH.out
                    · exact HK.out.2 j (by omega)⟩
              · have q3 : (x0 == 21) = false := by simp; omega
                have q4 : (x0 == 20) = false := by simp; omega
                have HLV : Hid (liveB E1 snap i = false) := by show _ = _; unfold liveB; rw [HX.out]; simp; omega
                have R1 : Hid (lvUp E1 snap (i + 1) = lvUp E1 snap i) := by show _ = _; rw [lvUp_succ, HLV.out]; simp
                clear h2 h3
                go_wp2_with fail
                go_roundg (n - (i + 1))
                case measure => omega
                case rel => exact ⟨i + 1, by omega, by omega, rfl, by go_num, HK.out.1, by rw [R1.out]; exact HO2.out, fun j hj => by
                  by_cases p : j = i
                  · subst p; exact HNH.out
                  · exact HK.out.2 j (by omega)⟩
          · have HNH : Hid (¬ hidP E1 snap i) := by show ¬ _; unfold hidP; rw [HX.out]; simp; omega
            have HLV : Hid (liveB E1 snap i = false) := by show _ = _; unfold liveB; rw [HX.out]; simp; omega
            have R1 : Hid (lvUp E1 snap (i + 1) = lvUp E1 snap i) := by show _ = _; rw [lvUp_succ, HLV.out]; simp
            go_wp2_with fail
            go_roundg (n - (i + 1))
            case measure => omega
            case rel => exact ⟨i + 1, by omega, by omega, rfl, by go_num, HK.out.1, by rw [R1.out]; exact HO2.out, fun j hj => by
              by_cases p : j = i
              · subst p; exact HNH.out
              · exact HK.out.2 j (by omega)⟩
        · obtain rfl : n = i := by omega
          go_wp2_with fail
          go_meet
          case rel => exact ⟨none, rfl, ⟨HK.out.2, fun h e => by cases e⟩, HK.out.1, HO2.out⟩
  case rest =>
    obtain ⟨hid, rfl, hF, hbelA, hownA⟩ := hcut
    obtain ⟨Wa, hWa⟩ : ∃ W, W = wc := ⟨_, rfl⟩
    subst hWa
    obtain ⟨lv, hlv⟩ : ∃ lv, lvUp E1 snap (hid.getD n) = lv := ⟨_, rfl⟩
    have hpw := lvUp_pairwise E1 snap (hid.getD n)
    have hlim := hF.le
    have hmem : ∀ x ∈ lv, x < n := fun x hx => by
      rw [← hlv] at hx
      have := List.mem_range.1 (List.mem_filter.1 hx).1
      omega
    have hLn := lvUp_len E1 snap (hid.getD n)
    rw [hlv] at hownA hpw hLn
    obtain ⟨ao, cc, rfl⟩ := owns_shape hownA
    have hlive : 0 < lv.length → ∃ gl, ao = some ⟨gl, 0, none⟩ ∧ gl < Wa.heap.size ∧ ∀ j, j < lv.length → Wa.cell? ⟨gl, j, none⟩ = some (intV lv[j]!) := fun hp => by
      rcases hownA.2 with ⟨h1, h2⟩ | ⟨g, cap, cur, h1, h2, h3, h4, h5, h6, h7⟩
      · omega
      · cases h1
        have hb : Blk Wa g cur 3 := h3
        refine ⟨g, rfl, hb.lt, fun j hj => hb.cell ?_⟩
        have h8 : (cur.toList.take (lv.length * 1))[j]? = (lv.map intV)[j]? := by rw [h7]
        rw [List.getElem?_take_of_lt (by omega), Array.getElem?_toList] at h8
        rw [h8]
        simp [hj]
    have HEa : Hid (Els w1 w.heap.size E1 S V ∧ Below w1.heap.size w1 Wa) := ⟨HE1.out.1, HE1.out.2.trans (hbelA.mono (by have := HBase.out.1.lt1; have := HBase.out.1.lt2; have := HBase.out.1.lt3; omega))⟩
    have HA : Hid (Base Wa w.heap.size w1.heap.size w2.heap.size n E1 E2 S V rev ∧ Below w.heap.size w Wa ∧ Found E1 snap n hid ∧ lvUp E1 snap (hid.getD n) = lv ∧ lv.Pairwise (· < ·) ∧ (∀ x ∈ lv, x < n) ∧ (0 < lv.length → ∃ gl, ao = some ⟨gl, 0, none⟩ ∧ gl < Wa.heap.size ∧ ∀ j, j < lv.length → Wa.cell? ⟨gl, j, none⟩ = some (intV lv[j]!))) :=
      ⟨HBase.out.1.below hbelA, HBase.out.2.trans (hbelA.mono HBase.out.2.size), hF, hlv, hpw, hmem, hlive⟩
    obtain ⟨L, hL⟩ : ∃ L, lv.length = L := ⟨_, rfl⟩
    have HL : Hid (lv.length = L) := hL
    rw [hL] at hLn ⊢
    have hLn' : L ≤ 4096 := by omega
    clear hF hbelA hownA hlv hpw hlim hmem hlive HBase hL hLn
    go_upto_block 2 with fail
    go_cut [14] (fun v14 wx => Below Wa.heap.size Wa wx ∧ wx.ownsRow Wa.heap.size 33 4 v14 (lv.filter (fstB S lv)).length ((lv.filter (fstB S lv)).flatMap (encE E1)))
    case first =>
      as_aux_lemma =>
        obtain ⟨i0, hi0, hz0, hz1, hz2⟩ := info_parts Yba.info33
        go_wp2_with fail
        go_loopg [14, 15] L (fun g' v14 v15 wr => ∃ j : Nat, L - j ≤ g' ∧ j ≤ L ∧ v15 = .int .i64 j ∧ Below Wa.heap.size Wa wr ∧ wr.ownsRow Wa.heap.size 33 4 v14 ((lv.take j).filter (fstB S lv)).length (((lv.take j).filter (fstB S lv)).flatMap (encE E1)))
        case atStart => exact ⟨0, by omega, by omega, rfl, Below.refl _ _, ⟨rfl, Or.inl ⟨rfl, rfl⟩⟩⟩
        case round =>
          obtain ⟨j, hgj, hjL, rfl, hbel, hown⟩ := hrel
          obtain ⟨kp, hkp⟩ : ∃ kp, (lv.take j).filter (fstB S lv) = kp := ⟨_, rfl⟩
          rw [hkp] at hown
          obtain ⟨ak, ck, rfl⟩ := owns_shape hown
          obtain ⟨K, hK⟩ : ∃ K, kp.length = K := ⟨_, rfl⟩
          have hKL : K ≤ L := by
            have h1 := List.length_filter_le (fstB S lv) (lv.take j)
            rw [hkp, hK, List.length_take, HL.out] at h1
            omega
          by_cases hlt : j < L
          · obtain ⟨gl, rfl, hgl, hlc⟩ := HA.out.2.2.2.2.2.2 (by rw [HL.out]; omega)
            have hjl : j < lv.length := by rw [HL.out]; exact hlt
            obtain ⟨x, hx⟩ : ∃ x, lv[j]! = x := ⟨_, rfl⟩
            have hxe : lv[j] = x := by rw [← hx]; simp [hjl]
            have hxn : x < n := HA.out.2.2.2.2.2.1 x (by rw [← hxe]; exact List.getElem_mem hjl)
            have hcl : wr.cell? ⟨gl, j, none⟩ = some (.int .i64 (x : Int)) := by rw [hbel.cell (p := ⟨gl, j, none⟩) hgl, hlc j hjl, hx]
            have hA := at4_of (HA.out.1.below hbel).r1 (i := x) (by simpa using hxn)
            rw [show (Array.range n)[x]! = x by simp [hxn]] at hA
            have hEs := (HA.out.1.below hbel).e1
            obtain ⟨kx, hkx⟩ : ∃ kx, E1 x = kx := ⟨_, rfl⟩
            rw [hkx] at hA
            obtain ⟨x0, x1, x2, x3, x4, x5, x6, x7⟩ := kx
            obtain ⟨a0, a1, a2, a3, f0, f1, f2, f3⟩ := hA
            simp only at a0 a1 a2 a3
            have HW : Hid (Below Wa.heap.size Wa wr ∧ wr.ownsRow Wa.heap.size 33 4 (.slice ak kp.length ck) kp.length (kp.flatMap (encE E1)) ∧ Els wr w.heap.size E1 S V ∧ E1 x = ⟨x0, x1, x2, x3, x4, x5, x6, x7⟩ ∧ (lv.take j).filter (fstB S lv) = kp ∧ kp.length = K ∧ lv[j] = x) := ⟨hbel, hown, hEs, hkx, hkp, hK, hxe⟩
            have hszr : Wa.heap.size ≤ wr.heap.size := hbel.size
            rw [hK]
            clear f0 f1 f2 f3 hbel hown hEs hkx hkp hK hxe hlc hx
            go_upto_block 4 with fail
            obtain ⟨Wb, hWb⟩ : ∃ W, W = wr.alloc (.cells #[.int .u8 x0, .int .u64 x1, .slice x2 x3 x4, .slice x5 x6 x7] 33) := ⟨_, rfl⟩
            have hbb : Below wr.heap.size wr Wb := by rw [hWb]; exact (Below.refl _ _).alloc (Nat.le_refl _) _
            have hvar : Blk Wb wr.heap.size #[.int .u8 x0, .int .u64 x1, .slice x2 x3 x4, .slice x5 x6 x7] 33 := by rw [hWb]; exact Blk.new _ _ _
            have hownb : Wb.ownsRow Wa.heap.size 33 4 (.slice ak kp.length ck) kp.length (kp.flatMap (encE E1)) := by rw [hWb]; exact HW.out.2.1.alloc _
            rw [← hWb]
            have HB : Hid (Below wr.heap.size wr Wb ∧ Blk Wb wr.heap.size #[.int .u8 x0, .int .u64 x1, .slice x2 x3 x4, .slice x5 x6 x7] 33 ∧ Wb.ownsRow Wa.heap.size 33 4 (.slice ak kp.length ck) kp.length (kp.flatMap (encE E1)) ∧ Els Wb w.heap.size E1 S V) := ⟨hbb, hvar, hownb, HW.out.2.2.1.below hbb⟩
            clear hWb hbb hvar hownb a0 a1 a2 a3 hcl
            go_cut [17] (fun v17 wx => v17 = .bool (!fstB S lv x) ∧ ∃ q, wx = Wb.drewN q)
            case first =>
              as_aux_lemma =>
                have hdup := dup_iff (S := S) HA.out.2.2.2.2.1 hjl
                rw [HW.out.2.2.2.2.2.2, HW.out.2.2.2.2.1] at hdup
                have HD : Hid ((∃ y ∈ kp, S y = S x) ↔ fstB S lv x = false) := hdup
                clear hdup
                go_wp2_with fail
                go_loopg [17, 18] K (fun g' v17 v18 wx => ∃ t q : Nat, K - t ≤ g' ∧ t ≤ K ∧ v17 = .bool false ∧ v18 = .int .i64 t ∧ Wb.drewN q = wx ∧ ∀ u, u < t → S kp[u]! ≠ S x)
                case atStart => exact ⟨0, 0, by omega, by omega, rfl, rfl, rfl, fun u hu => absurd hu (by omega)⟩
                case round =>
                  obtain ⟨t, q, hgt, htK, rfl, rfl, rfl, hne⟩ := hrel
                  have HNE : Hid (∀ u, u < t → S kp[u]! ≠ S x) := hne
                  clear hne
                  by_cases ht : t < K
                  · obtain ⟨gk', rfl, hgk1, hgk2, hgc, hgf⟩ := kept_cells HB.out.2.2.1 (by rw [HW.out.2.2.2.2.2.1]; omega)
                    obtain ⟨y, hy⟩ : ∃ y, kp[t]! = y := ⟨_, rfl⟩
                    obtain ⟨Wt, hWt⟩ : ∃ W, Wb.drewN q = W := ⟨_, rfl⟩
                    have HWt : Hid (Wb.drewN q = Wt) := hWt
                    rw [hWt]
                    have hc2 : ∀ m, (Wt.drewN m).cell? ⟨gk', t * 4 + 2, none⟩ = some (.slice (E1 y).sa (E1 y).sl (E1 y).sc) := fun m => by
                      rw [← hWt]
                      have := hgc t 2 (.slice (E1 y).sa (E1 y).sl (E1 y).sc) (by rw [HW.out.2.2.2.2.2.1]; exact ht) (by omega) (by rw [hy]; rfl)
                      exact this
                    have hv2 : ∀ m, (Wt.drewN m).cell? ⟨wr.heap.size, 2, none⟩ = some (.slice x2 x3 x4) := fun m => by rw [← hWt]; exact HB.out.2.1.cell (i := 2) (v := .slice x2 x3 x4) rfl
                    have hyb := HB.out.2.2.2.s y
                    have hxb := HB.out.2.2.2.s x
                    have hyl := HB.out.2.2.2.ls y
                    have hxl := HB.out.2.2.2.ls x
                    rw [HW.out.2.2.2.1] at hxb hxl
                    have T : ∀ m, Calls Yba.prog 7 #[.slice (E1 y).sa (E1 y).sl (E1 y).sc, .slice x2 x3 x4] (Wt.drewN m) fun e w' => e = .returned (.int .i64 (cmpL (S y) (S x))) ∧ ∃ q, w' = (Wt.drewN m).drewN q := fun m => by
                      rw [← hWt]
                      exact acmpb_any _ _ _ (S y) x2 x3 x4 (S x) _ hyb hxb hyl hxl
                    have HT : Hid _ := T
                    have HY : Hid (kp[t]! = y) := hy
                    have hzz : cmpL (S y) (S x) = 0 ↔ S y = S x := ⟨cmpL_zero _ _, fun e => by rw [e, cmpL_self]⟩
                    have HZZ : Hid (cmpL (S y) (S x) = 0 ↔ S y = S x) := hzz
                    have hbt : (t : Int) < (K : Int) := by omega
                    generalize E1 y = ky at *
                    obtain ⟨y0, y1, y2, y3, y4, y5, y6, y7⟩ := ky
                    simp only at hc2 T HT
                    clear hyb hxb hyl hxl T hzz hy hgc hgf hWt
                    obtain ⟨z, hz⟩ : ∃ z, cmpL (S y) (S x) = z := ⟨_, rfl⟩
                    rw [hz] at HT HZZ
                    clear hz
                    by_cases hz0' : z = 0
                    · have qz : (z == 0) = true := by simp [hz0']
                      have HZ0 : Hid (z = 0) := hz0'
                      clear hz0'
                      go_wp2_with fail
                      go_quiet (first | (go_at_call 7; refine Calls.quiet_of (HT.out _)))
                      go_wp2_with fail
                      go_meet
                      case rel =>
                        refine ⟨?_, _, by rw [← HWt.out, World.drewN_drewN]⟩
                        have : fstB S lv x = false := HD.out.1 ⟨y, by rw [← HY.out]; simp [show t < kp.length by rw [HW.out.2.2.2.2.2.1]; exact ht], HZZ.out.1 HZ0.out⟩
                        rw [this]; rfl
                    · have qz : (z == 0) = false := by simpa using hz0'
                      have HZ0 : Hid (z ≠ 0) := hz0'
                      clear hz0'
                      go_wp2_with fail
                      go_quiet (first | (go_at_call 7; refine Calls.quiet_of (HT.out _)))
                      go_wp2_with fail
                      go_roundg (K - (t + 1))
                      case measure => omega
                      case rel =>
                        refine ⟨t + 1, _, by omega, by omega, rfl, by go_num, by rw [← HWt.out, World.drewN_drewN], fun u hu => ?_⟩
                        by_cases p : u = t
                        · subst p; rw [HY.out]; exact fun e => HZ0.out (HZZ.out.2 e)
                        · exact HNE.out u (by omega)
                  · obtain rfl : K = t := by omega
                    go_wp2_with fail
                    go_meet
                    case rel =>
                      refine ⟨?_, q, rfl⟩
                      have : fstB S lv x = true := by
                        by_cases h : fstB S lv x = true
                        · exact h
                        · obtain ⟨y, hy1, hy2⟩ := HD.out.2 (by simpa using h)
                          obtain ⟨u, hu, rfl⟩ := List.getElem_of_mem hy1
                          exact absurd (by simpa [hu] using hy2) (HNE.out u (by rw [← HW.out.2.2.2.2.2.1]; exact hu))
                      rw [this]; rfl
            case rest =>
              as_aux_lemma =>
                obtain ⟨rfl, q, rfl⟩ := hcut
                have hTS := take_succ_filter S lv hjl
                rw [HW.out.2.2.2.2.2.2, HW.out.2.2.2.2.1] at hTS
                have HTS : Hid ((lv.take (j + 1)).filter (fstB S lv) = kp ++ (if fstB S lv x then [x] else [])) := hTS
                have HBq : Hid (Below Wa.heap.size Wa (Wb.drewN q) ∧ (Wb.drewN q).ownsRow Wa.heap.size 33 4 (.slice ak kp.length ck) kp.length (kp.flatMap (encE E1)) ∧ Blk (Wb.drewN q) wr.heap.size #[.int .u8 x0, .int .u64 x1, .slice x2 x3 x4, .slice x5 x6 x7] 33) :=
                  ⟨belowN (HW.out.1.trans (HB.out.1.mono hszr)) q, HB.out.2.2.1, HB.out.2.1.drewN q⟩
                generalize Wb.drewN q = Wq at *
                clear hTS HB
                have hszq : Wa.heap.size ≤ Wq.heap.size := HBq.out.1.size
                obtain ⟨f, hf⟩ : ∃ f, fstB S lv x = f := ⟨_, rfl⟩
                rw [hf] at HTS ⊢
                clear hf
                cases f
                · go_wp2_with fail
                  go_roundg (L - (j + 1))
                  case measure => omega
                  case rel => exact ⟨j + 1, by omega, by omega, by go_num, HBq.out.1, by rw [HTS.out]; simp only [Bool.false_eq_true, if_false, List.append_nil]; have := HBq.out.2.1; rw [HW.out.2.2.2.2.2.1] at this ⊢; exact this⟩
                · have v0 := HBq.out.2.2.cell (i := 0) (v := .int .u8 x0) rfl
                  have v1 := HBq.out.2.2.cell (i := 1) (v := .int .u64 x1) rfl
                  have v2 := HBq.out.2.2.cell (i := 2) (v := .slice x2 x3 x4) rfl
                  have v3 := HBq.out.2.2.cell (i := 3) (v := .slice x5 x6 x7) rfl
                  have hoa := fun ob => HBq.out.2.1.alloc ob
                  rw [HW.out.2.2.2.2.2.1] at hoa
                  have HOA : Hid _ := hoa
                  have FB : Hid (∀ (ob : Obj) (w' : World), (Wq.alloc ob).grownBy w' (Value.slice ak K ck).ownBlock → Below Wa.heap.size Wa w') := fun ob w' hg => by
                    have hr : ∀ q, (Value.slice ak K ck).ownBlock = some q → Wa.heap.size ≤ q := fun q hq => (HBq.out.2.1.lt q (by rw [← hq]; cases ak <;> rfl)).1
                    exact (HBq.out.1.alloc hszq ob).grown hg (by simp; omega) hr
                  clear hoa
                  go_wp2_with (at_builtin; go_loud (refine wpList_append_own _ rfl (.tmp 107) (.tmp 109) 24 rfl Wa.heap.size 33 i0 (.agg #[.int .u8 0, .int .u64 0, .slice none 0 0, .slice none 0 0]) 4 64 Yba.underlying24 hi0 hz0 hz1 hz2 rfl (by decide) _ K (kp.flatMap (encE E1)) rfl (HOA.out _) _ 1 1 [.int .u8 x0, .int .u64 x1, .slice x2 x3 x4, .slice x5 x6 x7] rfl rfl ?c1 ?c2 ?c3 ?c4 ?c5 ?_))
                  case c2 => exact ⟨rfl, rfl, rfl, rfl⟩
                  case c3 => unfold maxLen; omega
                  case c4 => omega
                  case c5 => first | omega | (simp; omega)
                  intro v' w' hown1 hg1 _
                  obtain ⟨ao', cc', rfl⟩ := owns_shape hown1
                  have R2 : Hid (Below Wa.heap.size Wa w') := FB.out _ _ hg1
                  have R1 : Hid (w'.ownsRow Wa.heap.size 33 4 (.slice ao' (K + 1) cc') ((lv.take (j + 1)).filter (fstB S lv)).length (((lv.take (j + 1)).filter (fstB S lv)).flatMap (encE E1))) := by
                    rw [HTS.out]
                    simp only [if_true, List.length_append, List.flatMap_append, List.flatMap_cons, List.flatMap_nil, List.append_nil, HW.out.2.2.2.2.2.1, List.length_cons, List.length_nil]
                    simp only [encE, HW.out.2.2.2.1, Key.cells]
                    exact hown1
                  clear hown1 hg1 v0 v1 v2 v3
                  go_wp2_with fail
                  go_roundg (L - (j + 1))
                  case measure => omega
                  case rel => exact ⟨j + 1, by omega, by omega, by go_num, R2.out, R1.out⟩
          · obtain rfl : L = j := by omega
            have hfin : kp = lv.filter (fstB S lv) := by rw [← hkp, List.take_of_length_le (by rw [HL.out]; exact Nat.le_refl _)]
            have HFIN : Hid (Below Wa.heap.size Wa wr ∧ wr.ownsRow Wa.heap.size 33 4 (.slice ak kp.length ck) (lv.filter (fstB S lv)).length ((lv.filter (fstB S lv)).flatMap (encE E1))) := ⟨hbel, by rw [← hfin]; exact hown⟩
            clear hbel hown hfin hkp
            go_wp2_with fail
            go_meet
            case rel => exact HFIN.out
    case rest =>
      obtain ⟨hbelB, hownB⟩ := hcut
      obtain ⟨Wk, hWk⟩ : ∃ W, W = wc := ⟨_, rfl⟩
      subst hWk
      obtain ⟨kp, hkp⟩ : ∃ kp, lv.filter (fstB S lv) = kp := ⟨_, rfl⟩
      rw [hkp] at hownB
      obtain ⟨ak, ck, rfl⟩ := owns_shape hownB
      obtain ⟨D, hD⟩ : ∃ D, kp.length = D := ⟨_, rfl⟩
      have hDL : D ≤ L := by
        have h1 := List.length_filter_le (fstB S lv) lv
        rw [hkp, hD, HL.out] at h1
        exact h1
      have hinc : ∀ p q, p < q → q < D → kp.toArray[p]! < kp.toArray[q]! := fun p q pq hq => by
        have hpw : kp.Pairwise (· < ·) := by rw [← hkp]; exact List.Pairwise.filter _ HA.out.2.2.2.2.1
        have := List.pairwise_iff_getElem.1 hpw p q (by omega) (by omega) pq
        simpa [show p < kp.length by omega, show q < kp.length by omega] using this
      have hkrow : 0 < D → ∃ gk, ak = some ⟨gk, 0, none⟩ ∧ Wa.heap.size ≤ gk ∧ gk < Wk.heap.size ∧ HoldsK (encE E1) 4 Wk gk 0 kp.toArray := fun h => by
        obtain ⟨g, h1, h2, h3, h4, h5⟩ := kept_cells hownB (by omega)
        exact ⟨g, h1, h2, h3, holds_of_kept h4 h5⟩
      have HK : Hid (Below Wa.heap.size Wa Wk ∧ lv.filter (fstB S lv) = kp ∧ kp.length = D ∧ (∀ p q, p < q → q < D → kp.toArray[p]! < kp.toArray[q]!) ∧ (0 < D → ∃ gk, ak = some ⟨gk, 0, none⟩ ∧ Wa.heap.size ≤ gk ∧ gk < Wk.heap.size ∧ HoldsK (encE E1) 4 Wk gk 0 kp.toArray)) := ⟨hbelB, hkp, hD, hinc, hkrow⟩
      rw [hD]
      clear hbelB hownB hkp hinc hkrow hD
      go_upto_block 6 with fail
      go_cut [] (fun wx => Below Wa.heap.size Wa wx ∧ ∃ d4, Mg (cmpR rev S) kp.toArray d4 0 D ∧ (0 < D → ∃ gk, ak = some ⟨gk, 0, none⟩ ∧ Wa.heap.size ≤ gk ∧ gk < wx.heap.size ∧ HoldsK (encE E1) 4 wx gk 0 d4))
      case first =>
        by_cases hD0 : D = 0
        · subst hD0
          have hnil : kp = [] := List.eq_nil_of_length_eq_zero HK.out.2.2.1
          have HX : Hid (Mg (cmpR rev S) kp.toArray kp.toArray 0 0) := ⟨Out.refl _ _ _, Sm.refl _ _ _, fun i j k1 k2 k3 => by omega⟩
          clear hnil
          go_wp2_with fail
          refine wp_loop_rounds 1 ?_
          rw [rounds_succ]
          go_wp2_with fail
          go_meet
          case rel => exact ⟨HK.out.1, _, HX.out, fun h => absurd h (by omega)⟩
        · obtain ⟨g, rfl, hg1, hg2, hH⟩ := HK.out.2.2.2.2 (by omega)
          have HH : Hid (HoldsK (encE E1) 4 Wk g 0 kp.toArray) := hH
          have hks : kp.toArray.size = D := by simp [HK.out.2.2.1]
          have HKS : Hid (kp.toArray.size = D) := hks
          clear hH hks
          go_wp2_with fail
          go_loopg [19] D (fun g' v19 wr => ∃ (i : Nat) (dk : Array Nat), D - i ≤ g' ∧ 1 ≤ i ∧ i ≤ D ∧ v19 = .int .i64 i ∧ SWK (encE E1) 4 Wk g 0 dk wr ∧ dk.size = D ∧ insOuter (ltOf (cmpR rev S)) 0 D i dk = insOuter (ltOf (cmpR rev S)) 0 D 1 kp.toArray)
          case atStart => exact ⟨1, kp.toArray, by omega, by omega, by omega, rfl, SWK.start HH.out, HKS.out, rfl⟩
          case round =>
            obtain ⟨i, dk, hgi, hi1, hiD, rfl, hSk, hdk, hO⟩ := hrel
            have HO : Hid (insOuter (ltOf (cmpR rev S)) 0 D i dk = insOuter (ltOf (cmpR rev S)) 0 D 1 kp.toArray) := hO
            have HSk : Hid (SWK (encE E1) 4 Wk g 0 dk wr) := hSk
            have HDK : Hid (dk.size = D) := hdk
            clear hO hSk hdk
            by_cases hlt : i < D
            · go_wp2_with fail
              go_loopg [20] i (fun g' v20 wr => ∃ (j : Nat) (dj : Array Nat), j ≤ g' ∧ j ≤ i ∧ v20 = .int .i64 j ∧ SWK (encE E1) 4 Wk g 0 dj wr ∧ dj.size = D ∧ insInner (ltOf (cmpR rev S)) 0 j dj = insInner (ltOf (cmpR rev S)) 0 i dk)
              case atStart => exact ⟨i, dk, by omega, by omega, rfl, HSk.out, HDK.out, rfl⟩
              case round =>
                obtain ⟨j, dj, hgj, hji, rfl, hSj, hdj, hIn⟩ := hrel
                have OUT : Hid (∀ w', SWK (encE E1) 4 Wk g 0 dj w' → (j ≤ 0 ∨ ltOf (cmpR rev S) dj[j]! dj[j - 1]! = false) → ∃ (i' : Nat) (dk' : Array Nat), D - i' ≤ D - (i + 1) ∧ 1 ≤ i' ∧ i' ≤ D ∧ Value.int .i64 ((i : Int) + 1) = .int .i64 i' ∧ SWK (encE E1) 4 Wk g 0 dk' w' ∧ dk'.size = D ∧ insOuter (ltOf (cmpR rev S)) 0 D i' dk' = insOuter (ltOf (cmpR rev S)) 0 D 1 kp.toArray) := fun w' h1 h2 =>
                  ⟨i + 1, dj, by omega, by omega, by omega, by go_num, h1, hdj, by rw [← HO.out, insOuter_go _ _ _ _ _ hlt, ← hIn, insInner_stop _ _ _ _ h2]⟩
                have HIn : Hid (insInner (ltOf (cmpR rev S)) 0 j dj = insInner (ltOf (cmpR rev S)) 0 i dk) := hIn
                have HSj : Hid (SWK (encE E1) 4 Wk g 0 dj wr) := hSj
                clear hIn hSj
                by_cases hj0 : 0 < j
                · obtain ⟨j, rfl⟩ : ∃ j', j = j' + 1 := ⟨j - 1, by omega⟩
                  have hHj := HSj.out.holds hg2 HH.out (by rw [HKS.out]; exact hdj)
                  have A1 := at4_of hHj (i := j) (by omega)
                  have A2 := at4_of hHj (i := j + 1) (by omega)
                  have hbw : Below Wa.heap.size Wa wr := below_fr HK.out.1 (Fr.of_swk HSj.out) hg1 HK.out.1.size
                  have hEs := HA.out.1.e1.below hbw
                  obtain ⟨x, hx⟩ : ∃ x, dj[j]! = x := ⟨_, rfl⟩
                  obtain ⟨y, hy⟩ : ∃ y, dj[j + 1]! = y := ⟨_, rfl⟩
                  have hsw := fun m => ((HSj.out.drewN m).swap (encE_len E1) hg2 j (j + 1) (by omega) (by omega)).drew
                  simp only [encE, Key.cells, World.setCells, Nat.zero_add] at hsw
                  rw [hx] at A1 hsw
                  rw [hy] at A2 hsw
                  have T := acmpb_any (E1 x).sa (E1 x).sl (E1 x).sc (S x) (E1 y).sa (E1 y).sl (E1 y).sc (S y)
                  have T7 : ∀ m, Calls Yba.prog 7 #[.slice (E1 x).sa (E1 x).sl (E1 x).sc, .slice (E1 y).sa (E1 y).sl (E1 y).sc] (wr.drewN m) fun e w' => e = .returned (.int .i64 (cmpL (S x) (S y))) ∧ ∃ q, w' = (wr.drewN m).drewN q := fun m => T _ (hEs.s x) (hEs.s y) (hEs.ls x) (hEs.ls y)
                  have hbd := cmpL_bd (S x) (S y)
                  have hcr : cmpR rev S y x = - (if rev then - cmpL (S x) (S y) else cmpL (S x) (S y)) := by rw [(cmpR_ord rev S).anti x y]; rfl
                  obtain ⟨z, hz⟩ : ∃ z, cmpL (S x) (S y) = z := ⟨_, rfl⟩
                  rw [hz] at T7 hbd hcr
                  have HT : Hid _ := T7
                  have HC : Hid (cmpR rev S y x = - (if rev then - z else z)) := hcr
                  have HXY : Hid (dj[j]! = x ∧ dj[j + 1]! = y ∧ dj.size = D) := ⟨hx, hy, hdj⟩
                  generalize hdj' : swp dj j (j + 1) = dj' at *
                  have HSWP : Hid (swp dj j (j + 1) = dj') := hdj'
                  clear hdj' T T7 hcr hz hx hy hEs hbw hHj
                  generalize E1 x = kx at *
                  generalize E1 y = ky at *
                  obtain ⟨x0, x1, x2, x3, x4, x5, x6, x7⟩ := kx
                  obtain ⟨y0, y1, y2, y3, y4, y5, y6, y7⟩ := ky
                  obtain ⟨a0, a1, a2, a3, f0, f1, f2, f3⟩ := A1
                  obtain ⟨b0, b1, b2, b3, e0, e1, e2, e3⟩ := A2
                  simp only at a0 a1 a2 a3 b0 b1 b2 b3 hsw HT
                  have HSW : Hid _ := hsw
                  have HA4 : Hid (wr.cell? ⟨g, j * 4, none⟩ = some (.int .u8 x0) ∧ wr.cell? ⟨g, j * 4 + 1, none⟩ = some (.int .u64 x1) ∧ wr.cell? ⟨g, j * 4 + 2, none⟩ = some (.slice x2 x3 x4) ∧ wr.cell? ⟨g, j * 4 + 3, none⟩ = some (.slice x5 x6 x7) ∧ wr.cell? ⟨g, (j + 1) * 4, none⟩ = some (.int .u8 y0) ∧ wr.cell? ⟨g, (j + 1) * 4 + 1, none⟩ = some (.int .u64 y1) ∧ wr.cell? ⟨g, (j + 1) * 4 + 2, none⟩ = some (.slice y2 y3 y4) ∧ wr.cell? ⟨g, (j + 1) * 4 + 3, none⟩ = some (.slice y5 y6 y7)) := ⟨a0, a1, a2, a3, b0, b1, b2, b3⟩
                  have c2 : ∀ m, (wr.drewN m).cell? ⟨g, j * 4 + 2, none⟩ = some (.slice x2 x3 x4) := fun m => a2
                  have d2 : ∀ m, (wr.drewN m).cell? ⟨g, (j + 1) * 4 + 2, none⟩ = some (.slice y2 y3 y4) := fun m => b2
                  have hwk : IntKind.i64.wrap (j : Int) = (j : Int) := by rw [IntKind.wrap_i64]; omega
                  have hjz : (j : Int) + 1 - 1 = (j : Int) := by omega
                  have hb1 : (j : Int) < (D : Int) := by omega
                  have hb2 : (j : Int) + 1 < (D : Int) := by omega
                  clear hsw a0 a1 a2 a3 b0 b1 b2 b3
                  cases rev
                  · have HC' : Hid (cmpR false S y x = - z) := by show cmpR false S y x = - z; have := HC.out; simpa using this
                    by_cases hle : z ≤ 0
                    · have hleb : decide (z ≤ 0) = true := by simpa using hle
                      go_wp2_with fail
                      go_quiet (first | (go_at_call 7; refine Calls.quiet_of (HT.out _)))
                      clear c2 d2
                      go_wp2_with fail
                      go_roundg (D - (i + 1))
                      case measure => omega
                      case rel => exact OUT.out _ (HSj.out.drewN nq) (Or.inr (by rw [Nat.add_sub_cancel, HXY.out.1, HXY.out.2.1]; unfold ltOf; rw [HC'.out]; simp; omega))
                    · have hleb : decide (z ≤ 0) = false := by simpa using hle
                      go_wp2_with fail
                      go_quiet (first | (go_at_call 7; refine Calls.quiet_of (HT.out _)))
                      have g0 : (wr.drewN nq).cell? ⟨g, j * 4, none⟩ = some (.int .u8 x0) := HA4.out.1
                      have g1 : (wr.drewN nq).cell? ⟨g, j * 4 + 1, none⟩ = some (.int .u64 x1) := HA4.out.2.1
                      have g2 := c2 nq
                      have g3 : (wr.drewN nq).cell? ⟨g, j * 4 + 3, none⟩ = some (.slice x5 x6 x7) := HA4.out.2.2.2.1
                      have k0 : (wr.drewN nq).cell? ⟨g, (j + 1) * 4, none⟩ = some (.int .u8 y0) := HA4.out.2.2.2.2.1
                      have k1 : (wr.drewN nq).cell? ⟨g, (j + 1) * 4 + 1, none⟩ = some (.int .u64 y1) := HA4.out.2.2.2.2.2.1
                      have k2 := d2 nq
                      have k3 : (wr.drewN nq).cell? ⟨g, (j + 1) * 4 + 3, none⟩ = some (.slice y5 y6 y7) := HA4.out.2.2.2.2.2.2.2
                      have f0' : (wr.drewN nq).frozen? ⟨g, j * 4, none⟩ = false := f0
                      have f1' : (wr.drewN nq).frozen? ⟨g, j * 4 + 1, none⟩ = false := f1
                      have f2' : (wr.drewN nq).frozen? ⟨g, j * 4 + 2, none⟩ = false := f2
                      have f3' : (wr.drewN nq).frozen? ⟨g, j * 4 + 3, none⟩ = false := f3
                      have e0' : (wr.drewN nq).frozen? ⟨g, (j + 1) * 4, none⟩ = false := e0
                      have e1' : (wr.drewN nq).frozen? ⟨g, (j + 1) * 4 + 1, none⟩ = false := e1
                      have e2' : (wr.drewN nq).frozen? ⟨g, (j + 1) * 4 + 2, none⟩ = false := e2
                      have e3' : (wr.drewN nq).frozen? ⟨g, (j + 1) * 4 + 3, none⟩ = false := e3
                      have HSWq := HSW.out nq
                      have HSWQ : Hid _ := HSWq
                      clear c2 d2 HSWq HSW f0 f1 f2 f3 e0 e1 e2 e3 HA4
                      generalize wr.drewN nq = wq at *
                      go_wp2_with fail
                      go_region
                      all_goals go_wp2_with fail
                      go_roundg j
                      case measure => omega
                      case rel => exact ⟨j, dj', Nat.le_refl _, by omega, by go_num, HSWQ.out, by rw [← HSWP.out, size_swp]; exact HXY.out.2.2, by
                        have := insInner_go (ltOf (cmpR false S)) 0 (j + 1) dj (by omega) (by rw [Nat.add_sub_cancel, HXY.out.1, HXY.out.2.1]; unfold ltOf; rw [HC'.out]; simp; omega)
                        rw [Nat.add_sub_cancel, swp_comm' dj (j + 1) j (by rw [HXY.out.2.2]; omega) (by rw [HXY.out.2.2]; omega), HSWP.out] at this
                        rw [← HIn.out, this]⟩
                  · have HC' : Hid (cmpR true S y x = z) := by show cmpR true S y x = z; have := HC.out; simpa using this
                    by_cases hle : -z ≤ 0
                    · have hleb : decide (-z ≤ 0) = true := by simpa using hle
                      go_wp2_with fail
                      go_quiet (first | (go_at_call 7; refine Calls.quiet_of (HT.out _)))
                      clear c2 d2
                      go_wp2_with fail
                      go_roundg (D - (i + 1))
                      case measure => omega
                      case rel => exact OUT.out _ (HSj.out.drewN nq) (Or.inr (by rw [Nat.add_sub_cancel, HXY.out.1, HXY.out.2.1]; unfold ltOf; rw [HC'.out]; simp; omega))
                    · have hleb : decide (-z ≤ 0) = false := by simpa using hle
                      go_wp2_with fail
                      go_quiet (first | (go_at_call 7; refine Calls.quiet_of (HT.out _)))
                      have g0 : (wr.drewN nq).cell? ⟨g, j * 4, none⟩ = some (.int .u8 x0) := HA4.out.1
                      have g1 : (wr.drewN nq).cell? ⟨g, j * 4 + 1, none⟩ = some (.int .u64 x1) := HA4.out.2.1
                      have g2 := c2 nq
                      have g3 : (wr.drewN nq).cell? ⟨g, j * 4 + 3, none⟩ = some (.slice x5 x6 x7) := HA4.out.2.2.2.1
                      have k0 : (wr.drewN nq).cell? ⟨g, (j + 1) * 4, none⟩ = some (.int .u8 y0) := HA4.out.2.2.2.2.1
                      have k1 : (wr.drewN nq).cell? ⟨g, (j + 1) * 4 + 1, none⟩ = some (.int .u64 y1) := HA4.out.2.2.2.2.2.1
                      have k2 := d2 nq
                      have k3 : (wr.drewN nq).cell? ⟨g, (j + 1) * 4 + 3, none⟩ = some (.slice y5 y6 y7) := HA4.out.2.2.2.2.2.2.2
                      have f0' : (wr.drewN nq).frozen? ⟨g, j * 4, none⟩ = false := f0
                      have f1' : (wr.drewN nq).frozen? ⟨g, j * 4 + 1, none⟩ = false := f1
                      have f2' : (wr.drewN nq).frozen? ⟨g, j * 4 + 2, none⟩ = false := f2
                      have f3' : (wr.drewN nq).frozen? ⟨g, j * 4 + 3, none⟩ = false := f3
                      have e0' : (wr.drewN nq).frozen? ⟨g, (j + 1) * 4, none⟩ = false := e0
                      have e1' : (wr.drewN nq).frozen? ⟨g, (j + 1) * 4 + 1, none⟩ = false := e1
                      have e2' : (wr.drewN nq).frozen? ⟨g, (j + 1) * 4 + 2, none⟩ = false := e2
                      have e3' : (wr.drewN nq).frozen? ⟨g, (j + 1) * 4 + 3, none⟩ = false := e3
                      have HSWq := HSW.out nq
                      have HSWQ : Hid _ := HSWq
                      clear c2 d2 HSWq HSW f0 f1 f2 f3 e0 e1 e2 e3 HA4
                      generalize wr.drewN nq = wq at *
                      go_wp2_with fail
                      go_region
                      all_goals go_wp2_with fail
                      go_roundg j
                      case measure => omega
                      case rel => exact ⟨j, dj', Nat.le_refl _, by omega, by go_num, HSWQ.out, by rw [← HSWP.out, size_swp]; exact HXY.out.2.2, by
                        have := insInner_go (ltOf (cmpR true S)) 0 (j + 1) dj (by omega) (by rw [Nat.add_sub_cancel, HXY.out.1, HXY.out.2.1]; unfold ltOf; rw [HC'.out]; simp; omega)
                        rw [Nat.add_sub_cancel, swp_comm' dj (j + 1) j (by rw [HXY.out.2.2]; omega) (by rw [HXY.out.2.2]; omega), HSWP.out] at this
                        rw [← HIn.out, this]⟩
                · obtain rfl : j = 0 := by omega
                  go_wp2_with fail
                  go_roundg (D - (i + 1))
                  case measure => omega
                  case rel => exact OUT.out _ HSj.out (Or.inl (by omega))
            · obtain rfl : D = i := by omega
              have hins := insertion_mg (cmpR_ord rev S) (a := 0) (b := D) (d := kp.toArray) (Nat.zero_le _) (by rw [HKS.out]; exact Nat.le_refl _) (fun p q _ pq hq => HK.out.2.2.2.1 p q pq hq)
              have he : insertionSort (ltOf (cmpR rev S)) kp.toArray 0 D = dk := by
                unfold insertionSort
                rw [← HO.out, insOuter_stop _ _ _ _ _ (by omega)]
              rw [he] at hins
              have HM : Hid (Mg (cmpR rev S) kp.toArray dk 0 D) := hins
              have HX : Hid (Below Wa.heap.size Wa wr ∧ g < wr.heap.size ∧ HoldsK (encE E1) 4 wr g 0 dk) := ⟨below_fr HK.out.1 (Fr.of_swk HSk.out) hg1 HK.out.1.size, HSk.out.lt hg2, HSk.out.holds hg2 HH.out (by rw [HKS.out]; exact HDK.out)⟩
              clear hins he
              go_wp2_with fail
              go_meet
              case rel => exact ⟨HX.out.1, dk, HM.out, fun _ => ⟨g, rfl, hg1, HX.out.2.1, HX.out.2.2⟩⟩
      case rest =>
        obtain ⟨hbelM, d4, hM4, hrow4⟩ := hcut
        obtain ⟨Wm, hWm⟩ : ∃ W, W = wc := ⟨_, rfl⟩
        subst hWm
        have hBm := HA.out.1.below hbelM
        have lt1 := hBm.lt1
        have lt2 := hBm.lt2
        have lt3 := hBm.lt3
        have T8 := decide_any E2 S V rev snap w1.heap.size n w2.heap.size Wm hn hBm.r2 (by omega) hBm.e2 hBm.x (by omega) hBm.z
        have HM : Hid (Base Wm w.heap.size w1.heap.size w2.heap.size n E1 E2 S V rev ∧ Below Wa.heap.size Wa Wm ∧ Mg (cmpR rev S) kp.toArray d4 0 D ∧ (0 < D → ∃ gk, ak = some ⟨gk, 0, none⟩ ∧ Wa.heap.size ≤ gk ∧ gk < Wm.heap.size ∧ HoldsK (encE E1) 4 Wm gk 0 d4)) := ⟨hBm, hbelM, hM4, hrow4⟩
        clear hbelM hM4 hrow4 hBm
        go_wp2_with fail
        refine T8.mono ?_
        rintro e Wz ⟨hid', R, d3, rfl, hFr, hH3, hDec⟩
        clear T8
        have hkk := HM.out.1.kk
        have hh' : hid' = hid := hid_eq hkk HA.out.2.2.1 hDec.hidn hDec.hids
        subst hh'
        obtain ⟨d1, D', e1, e2, e3, e4, e5, e6, e7⟩ := hDec.row
        have hlvE : lvUp E2 snap (hid'.getD n) = lv := by rw [lvUp_congr hkk]; exact HA.out.2.2.2.1
        rw [hlvE] at e1 e2 e4 e6 e7
        have hcomp := comp_is e1 (by rw [HK.out.2.1, HK.out.2.2.1]; exact HM.out.2.2.1)
        rw [HK.out.2.1, HK.out.2.2.1] at hcomp
        rw [hcomp] at e2 e4
        rw [HL.out] at e6 e7
        simp only [List.length_map, List.length_range] at e2
        subst e2
        have hd4s : d4.size = D' := by rw [HM.out.2.2.1.out.1]; simp [HK.out.2.2.1]
        have hd4n : ∀ t, t < D' → d4[t]! < n := fun t ht => by
          obtain ⟨u, _, hu, he⟩ := HM.out.2.2.1.sm.1 t (Nat.zero_le _) ht
          rw [he]
          have h1 : kp.toArray[u]! ∈ kp := (toArray_mem kp _).2 ⟨u, by rw [HK.out.2.2.1]; exact hu, rfl⟩
          generalize kp.toArray[u]! = y at *
          rw [← HK.out.2.1] at h1
          exact HA.out.2.2.2.2.2.1 _ (List.mem_filter.1 h1).1
        have hlLn : L ≤ n := by
          have := lvUp_len E1 snap (hid'.getD n)
          rw [HA.out.2.2.2.1, HL.out] at this
          have := HA.out.2.2.1.le
          omega
        have hRn : R ≤ n := by
          rw [e3]
          cases hh : hid' with
          | none => simp; omega
          | some h =>
            have h1 := (hDec.hids h hh).1
            have h2 := lvUp_len E1 snap (hid'.getD n)
            rw [HA.out.2.2.2.1, HL.out, hh] at h2
            simp at h2 ⊢
            omega
        have hbz1 : Below w1.heap.size w1 Wz := below_fr (HEa.out.2.trans (HM.out.2.1.mono (by have := HA.out.1.lt1; have := HA.out.1.lt2; have := HA.out.1.lt3; omega))) hFr (Nat.le_refl _) (by omega)
        have hbzw : Below w.heap.size w Wz := below_fr (HA.out.2.1.trans (HM.out.2.1.mono (by have := HA.out.1.lt1; have := HA.out.1.lt2; have := HA.out.1.lt3; omega))) hFr (by omega) (by omega)
        have hZ : Zs Wz w.heap.size w1.heap.size n L D' R ak E1 E2 S V hid' d3 d4 := by
          refine ⟨HEa.out.1.below hbz1, HM.out.1.e2.other (fun b o h1 h2 => hFr.cell o h1 h2) hFr.size, holdsK_fr HM.out.1.r1 hFr (by omega) (by omega), hH3, fun hd => ?_, by have := hFr.size; omega, by have := hFr.size; omega, hkk, HM.out.1.z, hDec.size, hd4s, hDL, hlLn, hRn, e3, fun t ht => ⟨?_, hd4n t ht⟩, fun h hh => ⟨e5 h hh, (hDec.hids h hh).1⟩, fun t h1 h2 => e6 t h1 h2, fun t h1 h2 h3 => e7 t h1 h2 h3⟩
          · obtain ⟨gk, k1, k2, k3, k4⟩ := HM.out.2.2.2 hd
            have := HA.out.1.lt3
            have := HA.out.1.lt2
            exact ⟨gk, k1, Nat.lt_of_lt_of_le k3 hFr.size, holdsK_fr k4 hFr (by omega) k3⟩
          · rw [e4 t ht]
            simp [ht]
        have HZ : Hid (Zs Wz w.heap.size w1.heap.size n L D' R ak E1 E2 S V hid' d3 d4 ∧ Below w.heap.size w Wz) := ⟨hZ, hbzw⟩
        clear hZ hbzw hbz1 hFr hH3 hDec hkk hlvE hcomp e1 e3 e4 e5 e6 e7 hd4s hd4n HM HEa HK HA
        have hZge : decide ((0 : Int) ≤ hidZ hid') = hid'.isSome := by
          cases hid' with
          | none => rfl
          | some h => simp [hidZ]
        have HZG : Hid (decide ((0 : Int) ≤ hidZ hid') = hid'.isSome) := hZge
        clear hZge
        go_upto_if 164 with fail
        go_cut [24] (fun v wx => v = .int .i64 R ∧ Wz = wx)
        case first =>
          as_aux_lemma =>
            cases hid' with
            | none =>
              have q : decide ((0 : Int) ≤ hidZ none) = false := rfl
              have hr := HZ.out.1.rd
              have HR : Hid (R = D') := by show R = D'; simpa using hr
              clear hr
              go_wp2_with fail
              go_meet
              case rel => exact ⟨by rw [HR.out], rfl⟩
            | some h =>
              have q : decide ((0 : Int) ≤ hidZ (some h)) = true := by simp [hidZ]
              have hr := HZ.out.1.rd
              have HR : Hid (R = D' + 1) := by show R = D' + 1; simpa using hr
              clear hr
              go_wp2_with fail
              go_meet
              case rel => exact ⟨by rw [HR.out]; first | rfl | go_num, rfl⟩
        case rest =>
          obtain ⟨rfl, rfl⟩ := hcut
          go_upto_block 10 with fail
          go_cut [] (fun wx => Below Wz.heap.size Wz wx)
          case first =>
            as_aux_lemma =>
              go_wp2_with fail
              go_loopg [25] D' (fun g' v25 wr => ∃ i : Nat, D' - i ≤ g' ∧ i ≤ D' ∧ v25 = .int .i64 i ∧ Below Wz.heap.size Wz wr)
              case atStart => exact ⟨0, by omega, by omega, rfl, Below.refl _ _⟩
              case round =>
                obtain ⟨i, hgi, hiD, rfl, hbel⟩ := hrel
                have HBl : Hid (Below Wz.heap.size Wz wr) := hbel
                by_cases hlt : i < D'
                · have hz := HZ.out.1.below hbel
                  obtain ⟨g, rfl, hg, h4⟩ := hz.r4 (by omega)
                  obtain ⟨hlo, hdn⟩ := hz.lo i hlt
                  obtain ⟨x, hx⟩ : ∃ x, d4[i]! = x := ⟨_, rfl⟩
                  rw [hx] at hlo
                  have A := atG_of hz.r2 hz.l2 (i := i) (by rw [hz.s3]; have := hz.dl; have := hz.ln; omega) hlo
                  have B := atG_of h4 hg (i := i) (by rw [hz.s4]; exact hlt) hx
                  have call := aeq_call hz.e1 hz.e2 hz.kk x
                  have hb1 : (i : Int) < (R : Int) := by have := hz.rd; omega
                  have hb2 : (i : Int) < (D' : Int) := by omega
                  clear hz h4 hlo hdn hx hbel
                  generalize E2 x = kx at *
                  generalize E1 x = ky at *
                  obtain ⟨x0, x1, x2, x3, x4, x5, x6, x7⟩ := kx
                  obtain ⟨y0, y1, y2, y3, y4, y5, y6, y7⟩ := ky
                  simp only [Key.cells] at call
                  obtain ⟨a0, a1, a2, a3⟩ := A
                  obtain ⟨b0, b1, b2, b3⟩ := B
                  simp only at a0 a1 a2 a3 b0 b1 b2 b3
                  go_wp2_with fail
                  go_quiet_grown (first | (go_at_call 9; refine Calls.grown_of (call _ _)))
                  clear a0 a1 a2 a3 b0 b1 b2 b3 call
                  go_wp2_with fail
                  go_roundg (D' - (i + 1))
                  case measure => omega
                  case rel => exact ⟨i + 1, by omega, by omega, by go_num, HBl.out.trans ((below_grown wr nq osq).mono HBl.out.size)⟩
                · go_wp2_with fail
                  go_meet
                  case rel => exact hbel
          case rest =>
            obtain ⟨W6, hW6⟩ : ∃ W, W = wc := ⟨_, rfl⟩
            subst hW6
            have H6 : Hid (Zs W6 w.heap.size w1.heap.size n L D' R ak E1 E2 S V hid' d3 d4 ∧ Below w.heap.size w W6) := ⟨HZ.out.1.below hcut, HZ.out.2.trans (hcut.mono HZ.out.2.size)⟩
            clear hcut HZ
            go_upto_region 53 with fail
            go_cut [199] (fun v wx => v = .bool false ∧ Below W6.heap.size W6 wx)
            case first =>
              as_aux_lemma =>
                cases hid' with
                | none =>
                  rw [show hidZ none = -1 from rfl]
                  go_big_region_o
                  all_goals go_wp2_with fail
                  all_goals go_meet
                  all_goals exact ⟨rfl, (Below.refl _ _).drew⟩
                | some h =>
                  rw [show hidZ (some h) = (h : Int) from rfl]
                  have q : decide ((0 : Int) ≤ (h : Int)) = true := by simp
                  have hz := H6.out.1
                  obtain ⟨hd, hhn⟩ := hz.hh h rfl
                  have hr : R = D' + 1 := by simpa using hz.rd
                  have A := atG_of hz.r2 hz.l2 (i := D') (by rw [hz.s3]; have := hz.rn; omega) hd
                  have B := atG_of hz.r1 hz.l1 (i := h) (x := h) (by simpa using hhn) (by simp [hhn])
                  have call := aeq_call hz.e1 hz.e2 hz.kk h
                  have hb1 : (D' : Int) < (R : Int) := by omega
                  have hb2 : (h : Int) < (n : Int) := by omega
                  have HRD : Hid (R = D' + 1) := hr
                  clear hz hd hr HZG
                  generalize E2 h = kx at *
                  generalize E1 h = ky at *
                  obtain ⟨x0, x1, x2, x3, x4, x5, x6, x7⟩ := kx
                  obtain ⟨y0, y1, y2, y3, y4, y5, y6, y7⟩ := ky
                  simp only [Key.cells] at call
                  obtain ⟨a0, a1, a2, a3⟩ := A
                  obtain ⟨b0, b1, b2, b3⟩ := B
                  simp only at a0 a1 a2 a3 b0 b1 b2 b3
                  go_quiet_grown (first | (go_at_call 9; refine Calls.grown_of (call _ _)))
                  clear a0 a1 a2 a3 b0 b1 b2 b3 call
                  go_wp2_with fail
                  go_meet
                  case rel => exact ⟨rfl, below_grown W6 nq osq⟩
            case rest =>
              obtain ⟨rfl, hbel7⟩ := hcut
              obtain ⟨W7, hW7⟩ : ∃ W, W = wc := ⟨_, rfl⟩
              subst hW7
              have H7 : Hid (Zs W7 w.heap.size w1.heap.size n L D' R ak E1 E2 S V hid' d3 d4 ∧ Below w.heap.size w W7) := ⟨H6.out.1.below hbel7, H6.out.2.trans (hbel7.mono H6.out.2.size)⟩
              clear hbel7 H6
              go_wp2_with fail
              go_loopg [26] n (fun g' v26 wr => ∃ i : Nat, n - i ≤ g' ∧ i ≤ n ∧ v26 = .int .i64 i ∧ Below W7.heap.size W7 wr)
              case atStart => exact ⟨0, by omega, by omega, rfl, Below.refl _ _⟩
              case round =>
                obtain ⟨i, hgi, hin, rfl, hbel⟩ := hrel
                by_cases hlt : i < n
                · have hz := H7.out.1.below hbel
                  have A4 := at4_of hz.r2 (i := i) (by rw [hz.s3]; exact hlt)
                  obtain ⟨x, hx⟩ : ∃ x, d3[i]! = x := ⟨_, rfl⟩
                  rw [hx] at A4
                  have hbv : Below wr.heap.size wr (wr.alloc (.cells (E2 x).cells.toArray 33)) := (Below.refl _ _).alloc (Nat.le_refl _) _
                  have hzv := hz.below hbv
                  have HBv : Hid (Below W7.heap.size W7 (wr.alloc (.cells (E2 x).cells.toArray 33))) := hbel.trans (hbv.mono hbel.size)
                  have hDL' := hz.dl
                  have hLn7 := hz.ln
                  by_cases h1 : i < D'
                  ·
                    as_aux_lemma =>
                      have A0 := var_cells wr (E2 x) 0 (.int .u8 (E2 x).k) rfl
                      have A1 := var_cells wr (E2 x) 1 (.int .u64 (E2 x).s) rfl
                      have A2 := var_cells wr (E2 x) 2 (.slice (E2 x).sa (E2 x).sl (E2 x).sc) rfl
                      have A3 := var_cells wr (E2 x) 3 (.slice (E2 x).va (E2 x).vl (E2 x).vc) rfl
                      have call := aeq_call hzv.e1 hzv.e2 hzv.kk x
                      obtain ⟨g, rfl, hg, h4⟩ := hzv.r4 (by omega)
                      have B := atG_of h4 hg (i := i) (x := x) (by rw [hzv.s4]; exact h1) ((hzv.lo i h1).1.symm.trans hx)
                      have hb1 : (i : Int) < (D' : Int) := by omega
                      clear h4 hx hbv hbel
                      clear hzv hz
                      generalize E2 x = kx at *
                      generalize E1 x = ky at *
                      obtain ⟨x0, x1, x2, x3, x4, x5, x6, x7⟩ := kx
                      obtain ⟨y0, y1, y2, y3, y4, y5, y6, y7⟩ := ky
                      simp only [Key.cells] at call A0 A1 A2 A3 HBv
                      obtain ⟨a0, a1, a2, a3, f0, f1, f2, f3⟩ := A4
                      obtain ⟨b0, b1, b2, b3⟩ := B
                      simp only at a0 a1 a2 a3
                      simp only [Key.cells] at b0 b1 b2 b3
                      clear f0 f1 f2 f3
                      go_upto_region 62 with fail
                      generalize wr.alloc (.cells #[.int .u8 x0, .int .u64 x1, .slice x2 x3 x4, .slice x5 x6 x7] 33) = Wv at *
                      clear a0 a1 a2 a3
                      go_quiet_grown (first | (go_at_call 9; refine Calls.grown_of (call _ _)))
                      clear b0 b1 b2 b3 call A0 A1 A2 A3
                      go_wp2_with fail
                      go_roundg (n - (i + 1))
                      case measure => omega
                      case rel => exact ⟨i + 1, by omega, by omega, by go_num, HBv.out.trans ((below_grown Wv nq osq).mono HBv.out.size)⟩
                  · by_cases h2 : i = D' ∧ hid'.isSome = true
                    ·
                      as_aux_lemma =>
                        obtain ⟨h2a, h2b⟩ := h2
                        obtain ⟨h, rfl⟩ : ∃ h, hid' = some h := Option.isSome_iff_exists.1 h2b
                        have hxh : x = h := by rw [← hx, h2a]; exact (hz.hh h rfl).1
                        have hhn := (hz.hh h rfl).2
                        have HXH : Hid (x = h) := hxh
                        have A0 := var_cells wr (E2 x) 0 (.int .u8 (E2 x).k) rfl
                        have A1 := var_cells wr (E2 x) 1 (.int .u64 (E2 x).s) rfl
                        have A2 := var_cells wr (E2 x) 2 (.slice (E2 x).sa (E2 x).sl (E2 x).sc) rfl
                        have A3 := var_cells wr (E2 x) 3 (.slice (E2 x).va (E2 x).vl (E2 x).vc) rfl
                        have call := aeq_call hzv.e1 hzv.e2 hzv.kk x
                        have B := atG_of hzv.r1 hzv.l1 (i := h) (x := x) (by simpa using hhn) (by rw [hxh]; simp [hhn])
                        have hb2 : (h : Int) < (n : Int) := by omega
                        have q1 : ((i : Int) == (D' : Int)) = true := by simp [h2a]
                        have q2 : decide ((0 : Int) ≤ (h : Int)) = true := by simp
                        rw [show hidZ (some h) = (h : Int) from rfl]
                        have hni : ¬ (i : Int) < (D' : Int) := by omega
                        clear hx hbv hbel h2b hxh HZG h2a
                        clear hzv hz
                        generalize E2 x = kx at *
                        generalize E1 x = ky at *
                        obtain ⟨x0, x1, x2, x3, x4, x5, x6, x7⟩ := kx
                        obtain ⟨y0, y1, y2, y3, y4, y5, y6, y7⟩ := ky
                        simp only [Key.cells] at call A0 A1 A2 A3 HBv
                        obtain ⟨a0, a1, a2, a3, f0, f1, f2, f3⟩ := A4
                        obtain ⟨b0, b1, b2, b3⟩ := B
                        simp only at a0 a1 a2 a3
                        simp only [Key.cells] at b0 b1 b2 b3
                        clear f0 f1 f2 f3
                        go_upto_region 65 with fail
                        generalize wr.alloc (.cells #[.int .u8 x0, .int .u64 x1, .slice x2 x3 x4, .slice x5 x6 x7] 33) = Wv at *
                        clear a0 a1 a2 a3
                        go_quiet_grown (first | (go_at_call 9; refine Calls.grown_of (call _ _)))
                        clear b0 b1 b2 b3 call A0 A1 A2 A3
                        go_wp2_with fail
                        go_roundg (n - (i + 1))
                        case measure => omega
                        case rel => exact ⟨i + 1, by omega, by omega, by go_num, HBv.out.trans ((below_grown Wv nq osq).mono HBv.out.size)⟩
                    · have hR : R ≤ i := by
                        rw [hz.rd]
                        cases hh : hid' with
                        | none => simp; omega
                        | some h =>
                          have : ¬ i = D' := fun e => h2 ⟨e, by rw [hh]; rfl⟩
                          simp; omega
                      by_cases e : i = D'
                      · have hnone : hid' = none := by
                          cases hq : hid' with
                          | none => rfl
                          | some h => exact absurd ⟨e, by rw [hq]; rfl⟩ h2
                        subst hnone
                        rw [show hidZ none = -1 from rfl]
                        have q1 : ((i : Int) == (D' : Int)) = true := by simp [e]
                        clear e HZG
                        by_cases h3 : i < L
                        ·
                          as_aux_lemma =>
                            have hxn : x = n := by rw [← hx]; exact hz.zz i hR h3
                            rw [hxn, hz.z] at A4 HBv
                            have hq31 := run_neq31
                            obtain ⟨a0, a1, a2, a3, f0, f1, f2, f3⟩ := A4
                            simp only [zkey] at a0 a1 a2 a3
                            simp only [zkey, Key.cells] at HBv
                            have hb3 : (i : Int) < (L : Int) := by omega
                            have hni : ¬ (i : Int) < (D' : Int) := by omega
                            clear f0 f1 f2 f3 hz hzv hx hxn hbv hbel h2
                            go_wp2_with fail
                            go_roundg (n - (i + 1))
                            case measure => omega
                            case rel => exact ⟨i + 1, by omega, by omega, by go_num, HBv.out⟩
                        ·
                          as_aux_lemma =>
                            have A0 := var_cells wr (E2 x) 0 (.int .u8 (E2 x).k) rfl
                            have A1 := var_cells wr (E2 x) 1 (.int .u64 (E2 x).s) rfl
                            have A2 := var_cells wr (E2 x) 2 (.slice (E2 x).sa (E2 x).sl (E2 x).sc) rfl
                            have A3 := var_cells wr (E2 x) 3 (.slice (E2 x).va (E2 x).vl (E2 x).vc) rfl
                            have call := aeq_call hzv.e1 hzv.e2 hzv.kk x
                            have hxi : x = i := by rw [← hx]; exact hz.hi i hR (by omega) hlt
                            have B := atG_of hzv.r1 hzv.l1 (i := i) (x := x) (by simpa using hlt) (by rw [hxi]; simp [hlt])
                            have hni : ¬ (i : Int) < (D' : Int) := by omega
                            have hni2 : ¬ (i : Int) < (L : Int) := by omega
                            have hbn : (i : Int) < (n : Int) := by omega
                            clear hx hbv hbel hxi h2
                            clear hzv hz
                            generalize E2 x = kx at *
                            generalize E1 x = ky at *
                            obtain ⟨x0, x1, x2, x3, x4, x5, x6, x7⟩ := kx
                            obtain ⟨y0, y1, y2, y3, y4, y5, y6, y7⟩ := ky
                            simp only [Key.cells] at call A0 A1 A2 A3 HBv
                            obtain ⟨a0, a1, a2, a3, f0, f1, f2, f3⟩ := A4
                            obtain ⟨b0, b1, b2, b3⟩ := B
                            simp only at a0 a1 a2 a3
                            simp only [Key.cells] at b0 b1 b2 b3
                            clear f0 f1 f2 f3
                            go_upto_region 70 with fail
                            generalize wr.alloc (.cells #[.int .u8 x0, .int .u64 x1, .slice x2 x3 x4, .slice x5 x6 x7] 33) = Wv at *
                            clear a0 a1 a2 a3
                            go_quiet_grown (first | (go_at_call 9; refine Calls.grown_of (call _ _)))
                            clear b0 b1 b2 b3 call A0 A1 A2 A3
                            go_wp2_with fail
                            go_roundg (n - (i + 1))
                            case measure => omega
                            case rel => exact ⟨i + 1, by omega, by omega, by go_num, HBv.out.trans ((below_grown Wv nq osq).mono HBv.out.size)⟩
                      · have q1 : ((i : Int) == (D' : Int)) = false := by simp; omega
                        clear HZG
                        by_cases h3 : i < L
                        ·
                          as_aux_lemma =>
                            have hxn : x = n := by rw [← hx]; exact hz.zz i hR h3
                            rw [hxn, hz.z] at A4 HBv
                            have hq31 := run_neq31
                            obtain ⟨a0, a1, a2, a3, f0, f1, f2, f3⟩ := A4
                            simp only [zkey] at a0 a1 a2 a3
                            simp only [zkey, Key.cells] at HBv
                            have hb3 : (i : Int) < (L : Int) := by omega
                            have hni : ¬ (i : Int) < (D' : Int) := by omega
                            clear f0 f1 f2 f3 hz hzv hx hxn hbv hbel h2
                            go_wp2_with fail
                            go_roundg (n - (i + 1))
                            case measure => omega
                            case rel => exact ⟨i + 1, by omega, by omega, by go_num, HBv.out⟩
                        ·
                          as_aux_lemma =>
                            have A0 := var_cells wr (E2 x) 0 (.int .u8 (E2 x).k) rfl
                            have A1 := var_cells wr (E2 x) 1 (.int .u64 (E2 x).s) rfl
                            have A2 := var_cells wr (E2 x) 2 (.slice (E2 x).sa (E2 x).sl (E2 x).sc) rfl
                            have A3 := var_cells wr (E2 x) 3 (.slice (E2 x).va (E2 x).vl (E2 x).vc) rfl
                            have call := aeq_call hzv.e1 hzv.e2 hzv.kk x
                            have hxi : x = i := by rw [← hx]; exact hz.hi i hR (by omega) hlt
                            have B := atG_of hzv.r1 hzv.l1 (i := i) (x := x) (by simpa using hlt) (by rw [hxi]; simp [hlt])
                            have hni : ¬ (i : Int) < (D' : Int) := by omega
                            have hni2 : ¬ (i : Int) < (L : Int) := by omega
                            have hbn : (i : Int) < (n : Int) := by omega
                            clear hx hbv hbel hxi h2
                            clear hzv hz
                            generalize E2 x = kx at *
                            generalize E1 x = ky at *
                            obtain ⟨x0, x1, x2, x3, x4, x5, x6, x7⟩ := kx
                            obtain ⟨y0, y1, y2, y3, y4, y5, y6, y7⟩ := ky
                            simp only [Key.cells] at call A0 A1 A2 A3 HBv
                            obtain ⟨a0, a1, a2, a3, f0, f1, f2, f3⟩ := A4
                            obtain ⟨b0, b1, b2, b3⟩ := B
                            simp only at a0 a1 a2 a3
                            simp only [Key.cells] at b0 b1 b2 b3
                            clear f0 f1 f2 f3
                            go_upto_region 70 with fail
                            generalize wr.alloc (.cells #[.int .u8 x0, .int .u64 x1, .slice x2 x3 x4, .slice x5 x6 x7] 33) = Wv at *
                            clear a0 a1 a2 a3
                            go_quiet_grown (first | (go_at_call 9; refine Calls.grown_of (call _ _)))
                            clear b0 b1 b2 b3 call A0 A1 A2 A3
                            go_wp2_with fail
                            go_roundg (n - (i + 1))
                            case measure => omega
                            case rel => exact ⟨i + 1, by omega, by omega, by go_num, HBv.out.trans ((below_grown Wv nq osq).mono HBv.out.size)⟩
                · obtain rfl : n = i := by omega
                  have HF : Hid (Below w.heap.size w wr) := H7.out.2.trans (hbel.mono H7.out.2.size)
                  clear hbel
                  go_wp2_with fail
                  go_ret
                  exact ⟨rfl, HF.out⟩

end Go.Proofs.Ybulkdkos
