/-
  LawS5582AWhole: bytes.Equal, zzs5582aeq, zzs5582akind, zzs5582abuild, walked.
-/
import Derived.Test.YbulkdkosADec
import Derived.Test.YbulkdkosKit
import Derived.Shelf.Bytes.SlEqualAll
namespace Go.Proofs.Ybulkdkos
open Go.RowKit Go.Sort Go.Proofs Go.Lib
set_option linter.unusedVariables false
set_option linter.unusedSimpArgs false
theorem BytesAt.conv {w : World} {a : Option Addr} {n : Nat} {xs : List Int} (h : BytesAt w a n xs) (c : Nat) : (convert 31 9 (.slice a n c)).run Yba.prog w = .ok (.string (strOfNums xs)) w := by
  rcases Nat.eq_zero_or_pos n with hn | hn
  · subst hn
    obtain rfl : xs = [] := List.eq_nil_of_length_eq_zero h.1
    exact run_convert_bytes_zero w 31 5 Yba.underlying31 Yba.underlying5 a c 9 Yba.underlying9
  · obtain ⟨b, o, rfl, _, hc⟩ := h.2 hn
    exact run_convert_bytes_arg (P := Yba.prog) w 31 5 Yba.underlying31 Yba.underlying5 b o n c xs h.1 hc 9 Yba.underlying9
set_option maxRecDepth 100000 in
theorem bytesEqual_same (a1 : Option Addr) (n c1 : Nat) (a2 : Option Addr) (c2 : Nat) (xs : List Int) (w : World) (h1 : BytesAt w a1 n xs) (h2 : BytesAt w a2 n xs) :
    Calls Yba.prog 19 #[.slice a1 n c1, .slice a2 n c2] w fun e w' => e = .returned (.bool true) ∧ w' = w := by
  have e1 := h1.conv c1
  have e2 := h2.conv c2
  clear h1 h2
  generalize strOfNums xs = s at *
  go_enter Yba.func19, Yba.ntmps19
  go_wp2_with fail
  go_ret
  exact ⟨by simp, rfl⟩
theorem BytesAt.below {w w' : World} {a : Option Addr} {n : Nat} {xs : List Int} (h : BytesAt w a n xs) (hb : Below w.heap.size w w') : BytesAt w' a n xs :=
  h.kept (fun b o v hl hc _ => by rw [hb.cell (p := ⟨b, o, none⟩) hl]; exact hc) hb.size
set_option maxRecDepth 100000 in
/-- Two keys of one kind, number and content are the same to zzs5582aeq. -/
theorem aeq_same (p q : Key) (s v : List Int) (w : World) (hk : p.k = q.k) (hs : p.s = q.s) (p1 : BytesAt w p.sa p.sl s) (p2 : BytesAt w p.va p.vl v) (q1 : BytesAt w q.sa q.sl s) (q2 : BytesAt w q.va q.vl v) :
    Calls Yba.prog 9 #[.agg p.cells.toArray, .agg q.cells.toArray] w fun e w' => e = .returned (.bool true) ∧ Below w.heap.size w w' := by
  obtain ⟨x0, x1, x2, x3, x4, x5, x6, x7⟩ := p
  obtain ⟨y0, y1, y2, y3, y4, y5, y6, y7⟩ := q
  simp only [Key.cells] at *
  subst hk
  subst hs
  obtain rfl : x3 = y3 := p1.1.symm.trans q1.1
  obtain rfl : x6 = y6 := p2.1.symm.trans q2.1
  have T1 := fun o1 o2 => bytesEqual_same x2 x3 x4 y2 y4 s ((w.alloc o1).alloc o2) (p1.alloc2 o1 o2) (q1.alloc2 o1 o2)
  have T2 := fun o1 o2 => bytesEqual_same x5 x6 x7 y5 y7 v ((w.alloc o1).alloc o2) (p2.alloc2 o1 o2) (q2.alloc2 o1 o2)
  have hb : Hid (∀ o1 o2, Below w.heap.size w ((w.alloc o1).alloc o2)) := fun o1 o2 => ((Below.refl _ w).alloc (Nat.le_refl _) o1).alloc (by simp) o2
  clear p1 p2 q1 q2
  go_enter Yba.func9, Yba.ntmps9
  go_wp2_with fail
  refine (T1 _ _).mono ?_
  rintro e w1 ⟨rfl, rfl⟩
  clear T1
  go_wp2_with fail
  refine (T2 _ _).mono ?_
  rintro e w1 ⟨rfl, rfl⟩
  clear T2
  go_wp2_with fail
  go_ret
  exact ⟨rfl, hb.out _ _⟩
def kindOf (x : Int) : Int := if x % 5 = 0 then 15 else if x % 5 = 1 then 19 else if x % 5 = 2 then 20 else if x % 5 = 3 then 21 else x
set_option maxRecDepth 100000 in
theorem akind_any (x : Int) (w : World) (h0 : 0 ≤ x) (h1 : x ≤ 255) : Calls Yba.prog 14 #[.int .u8 x] w fun e w' => e = .returned (.int .u8 (kindOf x)) ∧ w' = w := by
  have hx : kindOf x = if x % 5 = 0 then 15 else if x % 5 = 1 then 19 else if x % 5 = 2 then 20 else if x % 5 = 3 then 21 else x := rfl
  have HX : Hid (kindOf x = if x % 5 = 0 then 15 else if x % 5 = 1 then 19 else if x % 5 = 2 then 20 else if x % 5 = 3 then 21 else x) := hx
  have ht : x.tmod 5 = x % 5 := by rw [Int.tmod_eq_emod_of_nonneg h0]
  clear hx
  have hc : x % 5 = 0 ∨ x % 5 = 1 ∨ x % 5 = 2 ∨ x % 5 = 3 ∨ x % 5 = 4 := by omega
  rcases hc with h | h | h | h | h
  all_goals
    go_enter Yba.func14, Yba.ntmps14
    go_wp2_with fail
    go_ret
    exact ⟨by rw [HX.out, h]; rfl, rfl⟩
def zkey : Key := ⟨0, 0, none, 0, 0, none, 0, 0⟩
def sufOf (xs : List Int) : List Int := (xs.take (xs.length % 3)).map fun z => 97 + z % 3
/-- The keys that came in. -/
structure Inp (w : World) (a : Option Addr) (n : Nat) (P : Nat → Key) (SB VB : Nat → List Int) : Prop where
  at_ : 0 < n → ∃ b o, a = some ⟨b, o, none⟩ ∧ b < w.heap.size ∧ ∀ i, i < n → w.cell? ⟨b, o + i * 4, none⟩ = some (.int .u8 (P i).k) ∧ w.cell? ⟨b, o + i * 4 + 1, none⟩ = some (.int .u64 (P i).s) ∧ w.cell? ⟨b, o + i * 4 + 2, none⟩ = some (.slice (P i).sa (P i).sl (P i).sc) ∧ w.cell? ⟨b, o + i * 4 + 3, none⟩ = some (.slice (P i).va (P i).vl (P i).vc)
  s : ∀ i, i < n → BytesAt w (P i).sa (P i).sl (SB i)
  v : ∀ i, i < n → BytesAt w (P i).va (P i).vl (VB i)
  ns : ∀ i, i < n → (P i).sa = none → (P i).sl = 0
  nv : ∀ i, i < n → (P i).va = none → (P i).vl = 0
  ls : ∀ i, i < n → (P i).sl ≤ 140737488351232
  lv : ∀ i, i < n → (P i).vl ≤ 140737488351232
  kb : ∀ i, i < n → 0 ≤ (P i).k ∧ (P i).k ≤ 255
  sb : ∀ i, i < n → ∀ j, 0 ≤ (SB i).getD j 0 ∧ (SB i).getD j 0 ≤ 255
theorem Inp.below {w w' : World} {a : Option Addr} {n : Nat} {P : Nat → Key} {SB VB : Nat → List Int} (h : Inp w a n P SB VB) (hb : Below w.heap.size w w') : Inp w' a n P SB VB :=
  ⟨fun hn => by
    obtain ⟨b, o, h1, h2, h3⟩ := h.at_ hn
    refine ⟨b, o, h1, Nat.lt_of_lt_of_le h2 hb.size, fun i hi => ?_⟩
    obtain ⟨k1, k2, k3, k4⟩ := h3 i hi
    have hc : ∀ x, w'.cell? ⟨b, x, none⟩ = w.cell? ⟨b, x, none⟩ := fun x => hb.cell (p := ⟨b, x, none⟩) h2
    rw [hc, hc, hc, hc]
    exact ⟨k1, k2, k3, k4⟩, fun i hi => (h.s i hi).below hb, fun i hi => (h.v i hi).below hb, h.ns, h.nv, h.ls, h.lv, h.kb, h.sb⟩
/-- What the building has made so far. -/
structure Bld (g : Nat) (w0 w : World) (n k : Nat) (P E : Nat → Key) (SB VB : Nat → List Int) : Prop where
  bel : Below g w0 w
  row : HoldsK (encE E) 4 w g 0 (Array.range n)
  lt : g < w.heap.size
  rest : ∀ i, k ≤ i → E i = zkey
  s : ∀ i, i < k → BytesAt w (E i).sa (E i).sl (sufOf (SB i))
  v : ∀ i, i < k → BytesAt w (E i).va (E i).vl (VB i)
  ns : ∀ i p, (E i).sa = some p → p.block ≠ g
  nv : ∀ i p, (E i).va = some p → p.block ≠ g
  ls : ∀ i, (E i).sl ≤ 140737488351232
  lv : ∀ i, (E i).vl ≤ 140737488351232
  kk : ∀ i, i < k → (E i).k = kindOf (P i).k ∧ (E i).s = (P i).s
theorem Bld.below {g : Nat} {w0 w w' : World} {n k : Nat} {P E : Nat → Key} {SB VB : Nat → List Int} (h : Bld g w0 w n k P E SB VB) (hb : Below w.heap.size w w') (hg : g ≤ w.heap.size) : Bld g w0 w' n k P E SB VB := by
  refine ⟨h.bel.trans (hb.mono hg), ?_, Nat.lt_of_lt_of_le h.lt hb.size, h.rest, fun i hi => (h.s i hi).below hb, fun i hi => (h.v i hi).below hb, h.ns, h.nv, h.ls, h.lv, h.kk⟩
  intro j hj
  have := h.row j hj
  refine ⟨?_, ?_⟩
  · rw [hb.cell (p := ⟨g, 0 + j, none⟩) h.lt]; exact this.1
  · have e : w'.frozen? ⟨g, 0 + j, none⟩ = w.frozen? ⟨g, 0 + j, none⟩ := by unfold World.frozen?; rw [hb.block g h.lt]
    rw [e]; exact this.2
theorem below_setCells {B : Nat} {w w' : World} (h : Below B w w') : ∀ (s : Nat) (vs : List Value) {g : Nat}, B ≤ g → Below B w (w'.setCells g s vs) := by
  intro s vs
  induction vs generalizing s w' with
  | nil => intro g _; exact h
  | cons v r ih => intro g hg; exact ih (h.setCell (show B ≤ (⟨g, s, none⟩ : Addr).block from hg) v) (s + 1) hg
def setE (E : Nat → Key) (k : Nat) (q : Key) : Nat → Key := fun i => if i = k then q else E i
theorem Bld.step {g : Nat} {w0 w : World} {n k : Nat} {P E : Nat → Key} {SB VB : Nat → List Int} (h : Bld g w0 w n k P E SB VB) (hk : k < n) (hg : w0.heap.size ≤ g ∨ True) (q : Key) (h1 : BytesAt w q.sa q.sl (sufOf (SB k))) (h2 : BytesAt w q.va q.vl (VB k)) (n1 : ∀ p, q.sa = some p → p.block ≠ g) (n2 : ∀ p, q.va = some p → p.block ≠ g) (l1 : q.sl ≤ 140737488351232) (l2 : q.vl ≤ 140737488351232) (e1 : q.k = kindOf (P k).k) (e2 : q.s = (P k).s) :
    Bld g w0 (w.setCells g (k * 4) q.cells) n (k + 1) P (setE E k q) SB VB := by
  have hsz : (w.setCells g (k * 4) q.cells).heap.size = w.heap.size := size_setCells _ _ _ _
  have hoth : ∀ b o, b ≠ g → (w.setCells g (k * 4) q.cells).cell? ⟨b, o, none⟩ = w.cell? ⟨b, o, none⟩ := fun b o hb => World.cell?_setCells_out g _ _ _ _ (fun e _ => absurd e hb)
  have bk : ∀ {a : Option Addr} {m : Nat} {xs : List Int}, BytesAt w a m xs → (∀ p, a = some p → p.block ≠ g) → BytesAt (w.setCells g (k * 4) q.cells) a m xs := fun hx hne => hx.other hne (fun b o hb _ => hoth b o hb) (by rw [hsz]; omega)
  have hE : ∀ i, i ≠ k → setE E k q i = E i := fun i hi => by simp [setE, hi]
  have hEk : setE E k q k = q := by simp [setE]
  refine ⟨below_setCells h.bel _ _ (Nat.le_refl _), ?_, by rw [hsz]; exact h.lt, fun i hi => by rw [hE i (by omega)]; exact h.rest i (by omega), fun i hi => ?_, fun i hi => ?_, fun i p hp => ?_, fun i p hp => ?_, fun i => ?_, fun i => ?_, fun i hi => ?_⟩
  · have hset := holds_setCells_c h.row (k * 4) q.cells (by rw [size_flatK]; simp [Key.cells]; omega)
    rw [Nat.zero_add] at hset
    have e : Sort.setMany (flatK (encE E) 4 (Array.range n)) (k * 4) q.cells = flatK (encE (setE E k q)) 4 (Array.range n) := by
      refine ext_get! (by simp) fun t ht => ?_
      have ht' : t < n * 4 := by simpa using ht
      rw [get_setMany _ _ _ t (by simpa using ht'), get_flatK _ _ _ t (by simpa using ht'), get_flatK _ _ _ t (by simpa using ht')]
      have hd : (Array.range n)[t / 4]! = t / 4 := by simp [show t / 4 < n by omega]
      rw [hd]
      by_cases p : k * 4 ≤ t ∧ t < k * 4 + 4
      · rw [if_pos (by simpa [Key.cells] using p)]
        have e' : t / 4 = k := by omega
        simp only [encE]
        rw [e', hEk, show t - k * 4 = t % 4 by omega]
      · rw [if_neg (by simpa [Key.cells] using p)]
        simp only [encE]
        rw [hE (t / 4) (by omega)]
    unfold HoldsK
    rw [← e]; exact hset
  · by_cases p : i = k
    · subst p; rw [hEk]; exact bk h1 n1
    · rw [hE i p]; exact bk (h.s i (by omega)) (h.ns i)
  · by_cases p : i = k
    · subst p; rw [hEk]; exact bk h2 n2
    · rw [hE i p]; exact bk (h.v i (by omega)) (h.nv i)
  · by_cases e : i = k
    · subst e; rw [hEk] at hp; exact n1 p hp
    · rw [hE i e] at hp; exact h.ns i p hp
  · by_cases e : i = k
    · subst e; rw [hEk] at hp; exact n2 p hp
    · rw [hE i e] at hp; exact h.nv i p hp
  · by_cases e : i = k
    · subst e; rw [hEk]; exact l1
    · rw [hE i e]; exact h.ls i
  · by_cases e : i = k
    · subst e; rw [hEk]; exact l2
    · rw [hE i e]; exact h.lv i
  · by_cases e : i = k
    · subst e; rw [hEk]; exact ⟨e1, e2⟩
    · rw [hE i e]; exact h.kk i (by omega)
theorem Yba.info5 : (Yba.prog.info? 5).map (fun i => (i.zero, i.size, i.bytes)) = some (some (.int .u8 0), 1, 1) := by kernel_rfl
theorem run_neq31 (w : World) (a : Option Addr) (n c n' c' : Nat) : (binOp .neq 31 (.slice a n c) (.slice none n' c')).run Yba.prog w = .ok (.bool (!a.isNone)) w := by
  simp only [binOp]
  simp [Op.equal, Op.maxDepth, Lib.run_equalIn_slice_nil w 9999 31 5 a n c n' c' Yba.underlying31]
theorem make_keys (n : Nat) (hn : n ≤ 4096) (w : World) : (Instr.makeSlice 24 (.int .i64 (n : Int)) (.int .i64 (n : Int))).run Yba.prog w = .ok (.slice (some ⟨w.heap.size, 0, none⟩) n n) (w.alloc (.cells (madeCells #[.int .u8 0, .int .u64 0, .slice none 0 0, .slice none 0 0] (n * 4)) 33)) := by
  obtain ⟨i, hi, hz0, hz1, hz2⟩ := info_parts Yba.info33
  have := run_make (P := Yba.prog) w 24 33 i _ Yba.underlying24 hi hz0 .i64 .i64 n n (by omega) (by omega) (by rw [hz2]; omega) (by omega)
  rw [hz1] at this
  simpa [Value.cells] using this
theorem make_bytes (n : Nat) (hn : n ≤ 140737488351232) (w : World) : (Instr.makeSlice 31 (.int .i64 (n : Int)) (.int .i64 (n : Int))).run Yba.prog w = .ok (.slice (some ⟨w.heap.size, 0, none⟩) n n) (w.alloc (.cells (madeCells #[.int .u8 0] n) 5)) := by
  obtain ⟨i, hi, hz0, hz1, hz2⟩ := info_parts Yba.info5
  have := run_make (P := Yba.prog) w 31 5 i _ Yba.underlying31 hi hz0 .i64 .i64 n n (by omega) (by omega) (by rw [hz2]; omega) (by omega)
  rw [hz1] at this
  simpa [Value.cells] using this
theorem made_row (w : World) (n : Nat) : HoldsK (encE fun _ => zkey) 4 (w.alloc (.cells (madeCells #[.int .u8 0, .int .u64 0, .slice none 0 0, .slice none 0 0] (n * 4)) 33)) w.heap.size 0 (Array.range n) := by
  intro j hj
  have hj' : j < n * 4 := by simpa using hj
  have hb := Blk.new w (madeCells #[.int .u8 0, .int .u64 0, .slice none 0 0, .slice none 0 0] (n * 4)) 33
  rw [Nat.zero_add]
  refine ⟨?_, hb.frozen j⟩
  rw [get_flatK _ _ _ _ (by simpa using hj')]
  refine hb.cell ?_
  have hm : j % 4 = 0 ∨ j % 4 = 1 ∨ j % 4 = 2 ∨ j % 4 = 3 := by omega
  simp only [encE, zkey, Key.cells, id]
  rcases hm with h | h | h | h <;> simp [madeCells, hj', h]
theorem blk_setRow {w : World} {b : Nat} {c : Array Value} {t : TypeId} (h : Blk w b c t) (c' : Array Value) : Blk (w.setRow b c') b c' t := by
  unfold Blk at h ⊢
  simp [World.setRow, Array.getElem?_modify, h]
theorem below_setRow {B : Nat} {w w' : World} (h : Below B w w') {g : Nat} (hg : B ≤ g) (c' : Array Value) : Below B w (w'.setRow g c') := by
  refine ⟨h.os, h.tape, h.output, by simpa [World.setRow] using h.size, fun k hk => ?_⟩
  rw [← h.block k hk]
  have : g ≠ k := by omega
  simp [World.setRow, Array.getElem?_modify, this]
set_option maxRecDepth 100000 in
set_option maxHeartbeats 2000000 in
theorem build_any (a : Option Addr) (n c : Nat) (P : Nat → Key) (SB VB : Nat → List Int) (w : World) (hn : n ≤ 4096) (hI : Inp w a n P SB VB) :
    Calls Yba.prog 6 #[.slice a n c] w fun e w' => ∃ E, e = .returned (.slice (some ⟨w.heap.size, 0, none⟩) n n) ∧ Bld w.heap.size w w' n n P E SB VB := by
  have hmk := make_keys n hn
  have hb0 : Bld w.heap.size w (w.alloc (.cells (madeCells #[.int .u8 0, .int .u64 0, .slice none 0 0, .slice none 0 0] (n * 4)) 33)) n 0 P (fun _ => zkey) SB VB :=
    ⟨(Below.refl _ _).alloc (Nat.le_refl _) _, made_row w n, by simp, fun _ _ => rfl, fun i hi => absurd hi (by omega), fun i hi => absurd hi (by omega), fun i p hp => by simp [zkey] at hp, fun i p hp => by simp [zkey] at hp, fun i => by simp [zkey], fun i => by simp [zkey], fun i hi => absurd hi (by omega)⟩
  have HB0 : Hid _ := hb0
  have HI : Hid (Inp w a n P SB VB) := hI
  clear hb0 hI
  have mx := mixed
  go_enter Yba.func6, Yba.ntmps6
  go_wp2_with fail
  clear hmk
  go_loopg [4] n (fun g' vi wr => ∃ k : Nat, g' = n - k ∧ k ≤ n ∧ vi = .int .i64 k ∧ ∃ E, Bld w.heap.size w wr n k P E SB VB)
  case atStart => exact ⟨0, rfl, Nat.zero_le _, rfl, _, HB0.out⟩
  case round =>
    clear HB0
    obtain ⟨k, hgk, hk, rfl, E, hB⟩ := hrel
    have HG : Hid (gk = n - k) := hgk
    have HB : Hid (Bld w.heap.size w wr n k P E SB VB) := hB
    have hwr : w.heap.size < wr.heap.size := hB.lt
    clear hgk hB
    by_cases hlt : k < n
    · obtain ⟨Wr, hWr⟩ : ∃ W, W = wr := ⟨_, rfl⟩
      subst hWr
      obtain ⟨b, o, rfl, hbl, hc⟩ := HI.out.at_ (by omega)
      have hcw : ∀ x, Wr.cell? ⟨b, x, none⟩ = w.cell? ⟨b, x, none⟩ := fun x => HB.out.bel.cell (p := ⟨b, x, none⟩) hbl
      obtain ⟨k1, k2, k3, k4⟩ := hc k hlt
      have HC : Hid (w.cell? ⟨b, o + k * 4, none⟩ = some (.int .u8 (P k).k) ∧ w.cell? ⟨b, o + k * 4 + 1, none⟩ = some (.int .u64 (P k).s) ∧ w.cell? ⟨b, o + k * 4 + 2, none⟩ = some (.slice (P k).sa (P k).sl (P k).sc) ∧ w.cell? ⟨b, o + k * 4 + 3, none⟩ = some (.slice (P k).va (P k).vl (P k).vc)) := ⟨k1, k2, k3, k4⟩
      have c3 : Wr.cell? ⟨b, o + k * 4 + 2, none⟩ = some (.slice (P k).sa (P k).sl (P k).sc) := by rw [hcw]; exact k3
      have hls := HI.out.ls k hlt
      have hns := HI.out.ns k hlt
      have hs := HI.out.s k hlt
      have HSB : Hid (BytesAt w (P k).sa (P k).sl (SB k)) := hs
      have HSR := HI.out.sb k hlt
      clear hc k1 k2 k3 k4 hs hcw
      obtain ⟨p, hp⟩ : ∃ p, P k = p := ⟨_, rfl⟩
      rw [hp] at c3 hls hns HSB HC
      have HP : Hid (P k = p) := hp
      obtain ⟨p0, p1, p2, p3, p4, p5, p6, p7⟩ := p
      simp only at c3 hls hns HSB HC
      have hq31 := run_neq31
      clear hp
      go_upto_if 23 with fail
      go_cut [5] (fun v wx => ∃ sa sl sc, v = .slice sa sl sc ∧ sl ≤ 2 ∧ Below Wr.heap.size Wr wx ∧ BytesAt wx sa sl (sufOf (SB k)) ∧ ∀ q, sa = some q → Wr.heap.size ≤ q.block)
      case first =>
        cases p2 with
        | none =>
          have h0 : p3 = 0 := hns rfl
          have hx : BytesAt Wr none 0 (sufOf (SB k)) := by
            have := HSB.out.1
            rw [h0] at this
            rw [List.eq_nil_of_length_eq_zero this]
            exact ⟨rfl, fun h => absurd h (by omega)⟩
          have HX : Hid (BytesAt Wr none 0 (sufOf (SB k))) := hx
          clear hx hns
          go_wp2_with fail
          go_meet
          case rel => exact ⟨none, 0, 0, rfl, by omega, Below.refl _ _, HX.out, fun q hq => by cases hq⟩
        | some q =>
          clear hns
          obtain ⟨m, hm⟩ : ∃ m, p3 % 3 = m := ⟨_, rfl⟩
          have e1 : (p3 : Int).tmod 3 = (m : Int) := by rw [Int.tmod_eq_emod_of_nonneg (by omega)]; omega
          have e2 : (p3 : Int) % 3 = (m : Int) := by omega
          have hm2 : m ≤ 2 := by omega
          have hmp : m ≤ p3 := by omega
          have hmk := make_bytes m (by omega)
          have hnew := Blk.new Wr (madeCells #[.int .u8 0] m) 5
          have hbel : Below Wr.heap.size Wr (Wr.alloc (.cells (madeCells #[.int .u8 0] m) 5)) := (Below.refl _ _).alloc (Nat.le_refl _) _
          have HN : Hid (Blk (Wr.alloc (.cells (madeCells #[.int .u8 0] m) 5)) Wr.heap.size (madeCells #[.int .u8 0] m) 5 ∧ Below Wr.heap.size Wr (Wr.alloc (.cells (madeCells #[.int .u8 0] m) 5))) := ⟨hnew, hbel⟩
          have HM : Hid (p3 % 3 = m) := hm
          clear hnew hbel hm
          go_wp2_with fail
          clear hmk e1 e2
          go_loopg [7] m (fun g' vj wx => ∃ j : Nat, g' = m - j ∧ j ≤ m ∧ vj = .int .i64 j ∧ Below Wr.heap.size Wr wx ∧ ∃ cs, Blk wx Wr.heap.size cs 5 ∧ cs.size = m ∧ Upto cs j fun t => .int .u8 (97 + (SB k).getD t 0 % 3))
          case atStart => exact ⟨0, rfl, Nat.zero_le _, rfl, HN.out.2, _, HN.out.1, size_madeCells _ _, Upto.zero _ _⟩
          case round =>
            clear HN
            obtain ⟨j, hgj, hj, rfl, hbel, cs, hbk, hcs, hup⟩ := hrel
            have HGJ : Hid (gk = m - j) := hgj
            clear hgj
            by_cases hjm : j < m
            · obtain ⟨b2, o2, hq2, hb2, hc2⟩ := HSB.out.2 (by omega)
              cases hq2
              have hz := hc2 j (by omega)
              have hzr := HSR j
              obtain ⟨z, hzz⟩ : ∃ z, (SB k).getD j 0 = z := ⟨_, rfl⟩
              rw [hzz] at hz hzr
              have hbw : Below w.heap.size w wr := HB.out.bel.trans (hbel.mono (by omega))
              have cz : wr.cell? ⟨b2, o2 + j, none⟩ = some (.int .u8 z) := by rw [hbw.cell (p := ⟨b2, o2 + j, none⟩) hb2]; exact hz
              have c3' : wr.cell? ⟨b, o + k * 4 + 2, none⟩ = some (.slice (some ⟨b2, o2, none⟩) p3 p4) := by rw [hbel.cell (p := ⟨b, o + k * 4 + 2, none⟩) (by show b < Wr.heap.size; omega)]; exact c3
              obtain ⟨⟨v0, hv0⟩, hf0⟩ := (show (∃ v, wr.cell? ⟨Wr.heap.size, j, none⟩ = some v) ∧ wr.frozen? ⟨Wr.heap.size, j, none⟩ = false from ⟨⟨_, hbk.cell (Array.getElem?_eq_getElem (by omega))⟩, hbk.frozen j⟩)
              have HK : Hid (Below Wr.heap.size Wr wr ∧ Blk wr Wr.heap.size cs 5 ∧ cs.size = m ∧ Upto cs j fun t => .int .u8 (97 + (SB k).getD t 0 % 3)) := ⟨hbel, hbk, hcs, hup⟩
              have HZ : Hid ((SB k).getD j 0 = z) := hzz
              obtain ⟨hz1, hz2⟩ := hzr
              have ez : z.tmod 3 = z % 3 := by rw [Int.tmod_eq_emod_of_nonneg hz1]
              clear hbel hbk hcs hup hz hc2 hbw hzz
              go_wp2_with fail
              obtain ⟨hbel, hbk, hcs, hup⟩ := HK.out
              go_roundg (m - (j + 1))
              case measure => have := HGJ.out; omega
              case rel => exact ⟨j + 1, rfl, by omega, by go_num, hbel.setCell (Nat.le_refl _) _, _, hbk.set j _, by simpa using hcs, hup.step (by omega) (by rw [HZ.out])⟩
            · obtain rfl : m = j := by omega
              have hx : BytesAt wr (some ⟨Wr.heap.size, 0, none⟩) m (sufOf (SB k)) := by
                have hl : (sufOf (SB k)).length = m := by
                  unfold sufOf
                  rw [List.length_map, List.length_take, HSB.out.1, HM.out]; omega
                refine ⟨hl, fun _ => ⟨Wr.heap.size, 0, rfl, hbk.lt, fun t ht => ?_⟩⟩
                rw [Nat.zero_add]
                refine hbk.cell ?_
                rw [hup t ht]
                congr 2
                have h1 : t < (SB k).length := by rw [HSB.out.1]; omega
                unfold sufOf
                rw [HSB.out.1, HM.out]
                simp [List.getD, ht, h1]
              have HX : Hid (BytesAt wr (some ⟨Wr.heap.size, 0, none⟩) m (sufOf (SB k)) ∧ Below Wr.heap.size Wr wr) := ⟨hx, hbel⟩
              clear hx hbel hbk hcs hup HGJ
              go_wp2_with fail
              go_meet
              case rel => exact ⟨_, m, m, rfl, hm2, HX.out.2, HX.out.1, fun q' hq' => by cases hq'; exact Nat.le_refl _⟩
      case rest =>
        obtain ⟨sa, sl, sc, rfl, hsl, hbelS, hBS, hnS⟩ := hcut
        obtain ⟨Wc, hWc⟩ : ∃ W, W = wc := ⟨_, rfl⟩
        subst hWc
        have HS1 : Hid (Below Wr.heap.size Wr Wc ∧ BytesAt Wc sa sl (sufOf (SB k)) ∧ ∀ q, sa = some q → Wr.heap.size ≤ q.block) := ⟨hbelS, hBS, hnS⟩
        have hbW : Below w.heap.size w Wc := HB.out.bel.trans (hbelS.mono (by omega))
        have c4 : Wc.cell? ⟨b, o + k * 4 + 3, none⟩ = some (.slice p5 p6 p7) := by rw [hbW.cell (p := ⟨b, o + k * 4 + 3, none⟩) hbl]; exact HC.out.2.2.2
        have hVB := HI.out.v k hlt
        have hlv := HI.out.lv k hlt
        have hnv := HI.out.nv k hlt
        rw [HP.out] at hVB hlv hnv
        simp only at hVB hlv hnv
        have HVB : Hid (BytesAt w p5 p6 (VB k)) := hVB
        have hszW : Wr.heap.size ≤ Wc.heap.size := hbelS.size
        clear c3 hbelS hBS hnS hVB
        go_upto_if 56 with fail
        go_cut [8] (fun v wx => ∃ va vl vc, v = .slice va vl vc ∧ vl ≤ 140737488351232 ∧ Below Wc.heap.size Wc wx ∧ BytesAt wx va vl (VB k) ∧ ∀ q, va = some q → Wr.heap.size ≤ q.block)
        case first =>
          cases p5 with
          | none =>
            have h0 : p6 = 0 := hnv rfl
            have hx : BytesAt Wc none 0 (VB k) := by
              have := HVB.out.1
              rw [h0] at this
              rw [List.eq_nil_of_length_eq_zero this]
              exact ⟨rfl, fun h => absurd h (by omega)⟩
            have HX : Hid (BytesAt Wc none 0 (VB k)) := hx
            clear hx hnv
            go_wp2_with fail
            go_meet
            case rel => exact ⟨none, 0, 0, rfl, by omega, Below.refl _ _, HX.out, fun q hq => by cases hq⟩
          | some q =>
            clear hnv
            have hmk := make_bytes p6 hlv
            have hnew := Blk.new Wc (madeCells #[.int .u8 0] p6) 5
            have hbel : Below Wc.heap.size Wc (Wc.alloc (.cells (madeCells #[.int .u8 0] p6) 5)) := (Below.refl _ _).alloc (Nat.le_refl _) _
            have c4' : (Wc.alloc (.cells (madeCells #[.int .u8 0] p6) 5)).cell? ⟨b, o + k * 4 + 3, none⟩ = some (.slice (some q) p6 p7) := by rw [hbel.cell (p := ⟨b, o + k * 4 + 3, none⟩) (by show b < Wc.heap.size; omega)]; exact c4
            have hVl := HVB.out.1
            have hcp : ∀ ty, (Builtin.copy_ #[31, 31] ty #[.slice (some ⟨Wc.heap.size, 0, none⟩) p6 p6, .slice (some q) p6 p7]).run Yba.prog (Wc.alloc (.cells (madeCells #[.int .u8 0] p6) 5)) = .ok (goInt p6) ((Wc.alloc (.cells (madeCells #[.int .u8 0] p6) 5)).setRow Wc.heap.size ((VB k).map (Value.int .u8)).toArray) := fun ty => by
              have hr := run_copy_row (P := Yba.prog) (Wc.alloc (.cells (madeCells #[.int .u8 0] p6) 5)) 31 31 ty 5 Wc.heap.size 0 p6 p6 q p6 p7 (madeCells #[.int .u8 0] p6) 5 ((VB k).map (Value.int .u8)) Yba.underlying31 (by kernel_rfl) hnew (by simp [hVl]) (by
                intro j v hj
                rw [List.getElem?_map] at hj
                by_cases h : j < (VB k).length
                · obtain ⟨b2, o2, hq2, hb2, hc2⟩ := HVB.out.2 (by omega)
                  cases hq2
                  rw [List.getElem?_eq_getElem h] at hj
                  simp at hj
                  rw [Addr.add_lit, hbel.cell (p := ⟨b2, o2 + j, none⟩) (by show b2 < Wc.heap.size; exact Nat.lt_of_lt_of_le hb2 hbW.size), hbW.cell (p := ⟨b2, o2 + j, none⟩) hb2, hc2 j (by omega), ← hj]
                  simp [List.getD, h]
                · rw [List.getElem?_eq_none (by omega)] at hj
                  simp at hj) (by simp [size_madeCells, hVl]) (by intro v hv; obtain ⟨x, _, rfl⟩ := List.mem_map.1 hv; rfl)
              have ec : ((madeCells #[Value.int .u8 0] p6).toList.take 0 ++ (VB k).map (Value.int .u8) ++ (madeCells #[Value.int .u8 0] p6).toList.drop (0 + ((VB k).map (Value.int .u8)).length)) = (VB k).map (Value.int .u8) := by
                rw [List.drop_eq_nil_iff.2 (by simp [size_madeCells, hVl])]
                simp
              rw [ec] at hr
              simpa [hVl] using hr
            have hset := blk_setRow hnew ((VB k).map (Value.int .u8)).toArray
            have hbs := below_setRow hbel (Nat.le_refl _) ((VB k).map (Value.int .u8)).toArray
            have hx : BytesAt ((Wc.alloc (.cells (madeCells #[.int .u8 0] p6) 5)).setRow Wc.heap.size ((VB k).map (Value.int .u8)).toArray) (some ⟨Wc.heap.size, 0, none⟩) p6 (VB k) := by
              refine ⟨hVl, fun _ => ⟨Wc.heap.size, 0, rfl, hset.lt, fun t ht => ?_⟩⟩
              rw [Nat.zero_add]
              refine hset.cell ?_
              simp [List.getD, show t < (VB k).length by omega]
            have HX : Hid (BytesAt ((Wc.alloc (.cells (madeCells #[.int .u8 0] p6) 5)).setRow Wc.heap.size ((VB k).map (Value.int .u8)).toArray) (some ⟨Wc.heap.size, 0, none⟩) p6 (VB k) ∧ Below Wc.heap.size Wc ((Wc.alloc (.cells (madeCells #[.int .u8 0] p6) 5)).setRow Wc.heap.size ((VB k).map (Value.int .u8)).toArray)) := ⟨hx, hbs⟩
            clear hx hbs hset hnew hbel hVl
            go_wp2_with fail
            go_meet
            case rel => exact ⟨_, p6, p6, rfl, hlv, HX.out.2, HX.out.1, fun q' hq' => by cases hq'; exact hszW⟩
        case rest =>
          obtain ⟨va, vl, vc, rfl, hvl, hbelV, hBV, hnV⟩ := hcut
          obtain ⟨Wd, hWd⟩ : ∃ W, W = wc := ⟨_, rfl⟩
          subst hWd
          have hbWd : Below w.heap.size w Wd := hbW.trans (hbelV.mono (by have := hbW.size; omega))
          have c1 : Wd.cell? ⟨b, o + k * 4, none⟩ = some (.int .u8 p0) := by rw [hbWd.cell (p := ⟨b, o + k * 4, none⟩) hbl]; exact HC.out.1
          have c2 : Wd.cell? ⟨b, o + k * 4 + 1, none⟩ = some (.int .u64 p1) := by rw [hbWd.cell (p := ⟨b, o + k * 4 + 1, none⟩) hbl]; exact HC.out.2.1
          have hBd := (HB.out.below HS1.out.1 (by omega)).below hbelV (by omega)
          have hA := at4_of hBd.row (i := k) (by simpa using hlt)
          have hkb := HI.out.kb k hlt
          rw [HP.out] at hkb
          simp only at hkb
          obtain ⟨hkb1, hkb2⟩ := hkb
          have hst := (hBd.step hlt (Or.inr trivial) ⟨kindOf p0, p1, sa, sl, sc, va, vl, vc⟩ (HS1.out.2.1.below hbelV) hBV (fun q hq e => by have := HS1.out.2.2 q hq; omega) (fun q hq e => by have := hnV q hq; omega) (by show sl ≤ _; omega) hvl (by rw [HP.out]) (by rw [HP.out]))
          have hst2 := hst.below ((Below.refl _ _).drew) (by rw [size_setCells]; have := hBd.lt; omega)
          simp only [Key.cells, World.setCells] at hst2
          have HST : Hid _ := hst2
          obtain ⟨a0, a1, a2, a3, f0, f1, f2, f3⟩ := hA
          clear hst hst2 hBd hbelV hBV hnV hbWd hbW c4
          go_wp2_with fail
          go_region_with (go_at_call 14; refine (akind_any _ _ hkb1 hkb2).mono ?_; rintro e w' ⟨rfl, rfl⟩)
          all_goals go_wp2_with fail
          all_goals
            go_roundg (n - (k + 1))
            case measure => have := HG.out; omega
            case rel => exact ⟨k + 1, rfl, by omega, by go_num, _, HST.out⟩
    · obtain rfl : n = k := by omega
      go_wp2_with fail
      go_ret
      exact ⟨E, rfl, HB.out⟩
end Go.Proofs.Ybulkdkos
