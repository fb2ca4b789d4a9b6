/-
  LawS5580AWhole: the walk of the law.
-/
import Derived.Test.YbulkdknqProg
import Derived.Test.YbulkdknqKit
import Derived.Test.YbulkdknqPrune
import Derived.Laws.CopyOwn
import Derived.WalkKit
import Derived.ProofKit
import Derived.Outline
import Derived.RegionTactic
import Derived.ChangeAlike
import Derived.WalkSpells
import Derived.Deep.LoopGhost
import Derived.Deep.QuietTactic
import Derived.BigQuiet
import Derived.OneCell
import Derived.Deep.DeepCutAuto
import Derived.Lib.SliceRun
namespace Go.Proofs.Ybulkdknq
open Go.ChangeShapes Go.WideShapes Go.ChangeAt Go.RowKit
set_option linter.unusedVariables false
theorem Yba.info4 : (Yba.prog.info? 4).map (fun i => (i.zero, i.size, i.bytes)) = some (some (.bool false), 1, 1) := by kernel_rfl
theorem Yba.info27 : (Yba.prog.info? 27).map (fun i => (i.zero, i.size, i.bytes)) = some (some (.agg #[.int .i64 0, .int .i64 0, .int .i64 0, .int .i64 0, .int .i64 0, .int .i64 0]), 6, 48) := by kernel_rfl
theorem make_ints (n : Nat) (hn : n ≤ 100000) (w : World) : (Instr.makeSlice 24 (.int .i64 (n : Int)) (.int .i64 (n : Int))).run Yba.prog w = .ok (.slice (some ⟨w.heap.size, 0, none⟩) n n) (w.alloc (.cells (madeCells #[.int .i64 0] n) 3)) := by
  obtain ⟨i, hi, hz0, hz1, hz2⟩ := info_parts Yba.info3
  have := run_make (P := Yba.prog) w 24 3 i _ Yba.underlying24 hi hz0 .i64 .i64 n n (by omega) (by omega) (by rw [hz2]; omega) (by omega)
  rw [hz1] at this
  simpa [Value.cells] using this
theorem make_heap (n : Nat) (hn : n ≤ 100000) (w : World) : (Instr.makeSlice 29 (.int .i64 (n : Int)) (.int .i64 (n : Int))).run Yba.prog w = .ok (.slice (some ⟨w.heap.size, 0, none⟩) n n) (w.alloc (.cells (madeCells #[.int .i64 0] n) 3)) := by
  obtain ⟨i, hi, hz0, hz1, hz2⟩ := info_parts Yba.info3
  have := run_make (P := Yba.prog) w 29 3 i _ Yba.underlying29 hi hz0 .i64 .i64 n n (by omega) (by omega) (by rw [hz2]; omega) (by omega)
  rw [hz1] at this
  simpa [Value.cells] using this
theorem make_bools (n : Nat) (hn : n ≤ 100000) (w : World) : (Instr.makeSlice 30 (.int .i64 (n : Int)) (.int .i64 (n : Int))).run Yba.prog w = .ok (.slice (some ⟨w.heap.size, 0, none⟩) n n) (w.alloc (.cells (madeCells #[.bool false] n) 4)) := by
  obtain ⟨i, hi, hz0, hz1, hz2⟩ := info_parts Yba.info4
  have := run_make (P := Yba.prog) w 30 4 i _ Yba.underlying30 hi hz0 .i64 .i64 n n (by omega) (by omega) (by rw [hz2]; omega) (by omega)
  rw [hz1] at this
  simpa [Value.cells] using this
theorem make_acc (n : Nat) (hn : n ≤ 100000) (w : World) : (Instr.makeSlice 25 (.int .i64 (n : Int)) (.int .i64 (n : Int))).run Yba.prog w = .ok (.slice (some ⟨w.heap.size, 0, none⟩) n n) (w.alloc (.cells (madeCells #[.int .i64 0, .int .i64 0, .int .i64 0, .int .i64 0, .int .i64 0, .int .i64 0] (n * 6)) 27)) := by
  obtain ⟨i, hi, hz0, hz1, hz2⟩ := info_parts Yba.info27
  have := run_make (P := Yba.prog) w 25 27 i _ Yba.underlying25 hi hz0 .i64 .i64 n n (by omega) (by omega) (by rw [hz2]; omega) (by omega)
  rw [hz1] at this
  simpa [Value.cells] using this
theorem Blk.at {w : World} {b : Nat} {c : Array Value} {t : TypeId} (h : Blk w b c t) {i : Nat} (hi : i < c.size) : (∃ v, w.cell? ⟨b, i, none⟩ = some v) ∧ w.frozen? ⟨b, i, none⟩ = false :=
  ⟨⟨_, h.cell (Array.getElem?_eq_getElem hi)⟩, h.frozen i⟩
theorem Blk.at6 {w : World} {b : Nat} {c : Array Value} {t : TypeId} (h : Blk w b c t) {i : Nat} (hi : i + 5 < c.size) : (∃ v, w.cell? ⟨b, i, none⟩ = some v) ∧ (∃ v, w.cell? ⟨b, i + 1, none⟩ = some v) ∧ (∃ v, w.cell? ⟨b, i + 2, none⟩ = some v) ∧ (∃ v, w.cell? ⟨b, i + 3, none⟩ = some v) ∧ (∃ v, w.cell? ⟨b, i + 4, none⟩ = some v) ∧ (∃ v, w.cell? ⟨b, i + 5, none⟩ = some v) :=
  ⟨(h.at (by omega)).1, (h.at (by omega)).1, (h.at (by omega)).1, (h.at (by omega)).1, (h.at (by omega)).1, (h.at (by omega)).1⟩
/-- What the walk is told of a slice of small integers that came in. -/
def Came (w : World) (k : IntKind) (a : Option Addr) (len : Nat) (Z : Nat → Int) : Prop := 0 < len → ∃ b off, a = some ⟨b, off, none⟩ ∧ b < w.heap.size ∧ ∀ j, j < len → w.cell? ⟨b, off + j, none⟩ = some (.int k (Z j))
def wtOf (Z2 : Nat → Int) (len2 nA : Nat) (t : Nat) : Int := if t < len2 ∧ 0 ≤ Z2 t ∧ 0 < nA then Z2 t % nA else -1
def mbOf (Z1 : Nat → Int) (len1 nT : Nat) (i : Nat) : Int := if i < len1 then Z1 i % nT else 0
theorem AccAt.step {c : Array Value} {k n : Nat} {O : Nat → Int} (h : AccAt c k O) (hc : c.size = n * 6) (hk : k < n) (x0 x2 x3 x4 x5 : Value) : AccAt ((((((c.setIfInBounds (k * 6) x0).setIfInBounds (k * 6 + 1) (.int .i64 (O k))).setIfInBounds (k * 6 + 2) x2).setIfInBounds (k * 6 + 3) x3).setIfInBounds (k * 6 + 4) x4).setIfInBounds (k * 6 + 5) x5) (k + 1) O := by
  intro j hj
  by_cases e : j = k
  · subst e
    simp only [Array.getElem?_setIfInBounds]
    rw [if_neg (by omega), if_neg (by omega), if_neg (by omega), if_neg (by omega), if_pos trivial, if_pos (by simp; omega)]
  · simp only [Array.getElem?_setIfInBounds]
    rw [if_neg (by omega), if_neg (by omega), if_neg (by omega), if_neg (by omega), if_neg (by omega), if_neg (by omega)]
    exact h j (by omega)
theorem Upto.step2 {c : Array Value} {k : Nat} {f : Nat → Value} (h : Upto c k f) (hk : k < c.size) {u v : Value} (hv : v = f k) : Upto ((c.setIfInBounds k u).setIfInBounds k v) (k + 1) f := by
  intro j hj
  by_cases e : j = k
  · subst e
    rw [Array.getElem?_setIfInBounds, if_pos rfl, if_pos (by simpa using hk), hv]
  · rw [Array.getElem?_setIfInBounds, if_neg (by omega), Array.getElem?_setIfInBounds, if_neg (by omega)]
    exact h j (by omega)
/-- From k on the cells of c hold zero. -/
def Zeros (c : Array Value) (k : Nat) : Prop := ∀ j, k ≤ j → j < c.size → c[j]? = some (.int .i64 0)
theorem Zeros.made (n : Nat) : Zeros (madeCells #[.int .i64 0] n) 0 := by
  intro j _ hj
  rw [size_madeCells] at hj
  simp [madeCells, hj, Nat.mod_one]
theorem Zeros.step {c : Array Value} {k : Nat} (h : Zeros c k) (v : Value) : Zeros (c.setIfInBounds k v) (k + 1) := by
  intro j hj hs
  rw [Array.getElem?_setIfInBounds, if_neg (by omega)]
  exact h j (by omega) (by simpa using hs)
theorem wt_in {Z2 : Nat → Int} {len2 nA t : Nat} (h : t < len2) (h2 : 0 ≤ Z2 t) (h3 : 0 < nA) : wtOf Z2 len2 nA t = Z2 t % nA := by simp [wtOf, h, h2, h3]
theorem wt_out {Z2 : Nat → Int} {len2 nA t : Nat} (h : ¬ (t < len2 ∧ 0 ≤ Z2 t ∧ 0 < nA)) : wtOf Z2 len2 nA t = -1 := by rw [wtOf, if_neg h]
theorem wt_bd {Z2 : Nat → Int} {len2 nA t : Nat} : -1 ≤ wtOf Z2 len2 nA t ∧ (0 ≤ wtOf Z2 len2 nA t → wtOf Z2 len2 nA t < nA) := by
  unfold wtOf
  split
  · rename_i h
    have h1 := Int.emod_nonneg (Z2 t) (show (nA : Int) ≠ 0 by omega)
    have h2 := Int.emod_lt_of_pos (Z2 t) (show (0 : Int) < nA by omega)
    exact ⟨by omega, fun _ => h2⟩
  · exact ⟨by omega, fun h => by omega⟩
/-- The rows that stand when the arguments have been turned to ints. -/
structure Env (B : Nat) (w W : World) (bo ba bw : Nat) (nA nT : Nat) (O T : Nat → Int) : Prop where
  bel : Below B w W
  objs : Row W bo 3 nA (fun j => .int .i64 (O j))
  acc : ∃ c, Blk W ba c 27 ∧ c.size = nA * 6 ∧ AccAt c nA O
  wat : Row W bw 3 nT (fun j => .int .i64 (T j))
theorem env_mk {w W1 W2 : World} {len2 len3 : Nat} {O T : Nat → Int} {c : Array Value} (h : Below w.heap.size w W1 ∧ Row W1 w.heap.size 3 len3 (fun j => .int .i64 (O j)) ∧ (∃ c, Blk W1 (w.heap.size + 1) c 27 ∧ c.size = len3 * 6 ∧ AccAt c len3 O)) (hbel : Below W1.heap.size W1 W2) (hb : Blk W2 W1.heap.size c 3) (hcs : c.size = len2 + 1) (hcf : Upto c (len2 + 1) (fun j => .int .i64 (T j))) :
    Env w.heap.size w W2 w.heap.size (w.heap.size + 1) W1.heap.size len3 (len2 + 1) O T := by
  obtain ⟨h1, h2, ca, h3, h4, h5⟩ := h
  exact ⟨h1.trans (hbel.mono h1.size), h2.below hbel h2.lt, ⟨ca, h3.below hbel h3.lt, h4, h5⟩, c, hb, hcs, hcf⟩
theorem Env.below {B : Nat} {w W W' : World} {bo ba bw nA nT : Nat} {O T : Nat → Int} (h : Env B w W bo ba bw nA nT O T) (hb : Below W.heap.size W W') (hB : B ≤ W.heap.size) : Env B w W' bo ba bw nA nT O T := by
  obtain ⟨c, h1, h2, h3⟩ := h.acc
  exact ⟨h.bel.trans (hb.mono hB), h.objs.below hb h.objs.lt, ⟨c, h1.below hb h1.lt, h2, h3⟩, h.wat.below hb h.wat.lt⟩
theorem mem_mk {W : World} {b n m nT : Nat} {Z1 : Nat → Int} {c : Array Value} (hb : Blk W b c 3) (hcs : c.size = n) (hcf : Upto c m (fun j => .int .i64 (mbOf Z1 m nT j))) (hcz : Zeros c m) : Row W b 3 n (fun j => .int .i64 (mbOf Z1 m nT j)) := by
  refine ⟨c, hb, hcs, fun j hj => ?_⟩
  by_cases h : j < m
  · exact hcf j h
  · rw [hcz j (by omega) (by omega)]
    simp [mbOf, h]
/-- The heap h as prune will find it: its variable in block bv. -/
def HeapAt (W : World) (bv lo n : Nat) (H : Nat → Int) (hao : Option Addr) : Prop := Blk W bv #[.slice hao n n] 29 ∧ (0 < n → ∃ bh, hao = some ⟨bh, 0, none⟩ ∧ lo ≤ bh ∧ Row W bh 3 n (fun j => .int .i64 (H j)))
/-- After k places of the heap: which numbers were met. -/
def SeenAt (c : Array Value) (n k : Nat) (H : Nat → Int) : Prop := ∀ p, p < n → c[p]? = some (.bool (decide (∃ j, j < k ∧ H j = p)))
theorem SeenAt.start (n : Nat) (H : Nat → Int) : SeenAt (madeCells #[.bool false] n) n 0 H := by
  intro p hp
  simp [madeCells, hp, Nat.mod_one]
theorem SeenAt.step {c : Array Value} {n k p : Nat} {H : Nat → Int} (h : SeenAt c n k H) (hc : c.size = n) (hp : p < n) (hH : H k = p) : SeenAt (c.setIfInBounds p (.bool true)) n (k + 1) H := by
  intro q hq
  by_cases e : q = p
  · subst e
    rw [Array.getElem?_setIfInBounds, if_pos rfl, if_pos (by omega)]
    rw [decide_eq_true (⟨k, by omega, hH⟩ : ∃ j, j < k + 1 ∧ H j = q)]
  · rw [Array.getElem?_setIfInBounds, if_neg (by omega), h q hq]
    congr 2
    rw [decide_eq_decide]
    constructor
    · rintro ⟨j, h1, h2⟩; exact ⟨j, by omega, h2⟩
    · rintro ⟨j, h1, h2⟩
      by_cases hjk : j = k
      · subst hjk; omega
      · exact ⟨j, by omega, h2⟩
theorem mod_nat {z : Int} {n : Nat} (h0 : 0 ≤ z) (hn : 1 ≤ n) : ∃ p : Nat, z % n = p ∧ p < n := by
  refine ⟨(z % n).toNat, ?_, ?_⟩
  · have := Int.emod_nonneg z (show (n : Int) ≠ 0 by omega); omega
  · have := Int.emod_nonneg z (show (n : Int) ≠ 0 by omega)
    have := Int.emod_lt_of_pos z (show (0 : Int) < n by omega)
    omega
theorem HeapAt.below {W W' : World} {bv lo n : Nat} {H : Nat → Int} {hao : Option Addr} (h : HeapAt W bv lo n H hao) (hb : Below W.heap.size W W') : HeapAt W' bv lo n H hao := by
  obtain ⟨h1, h2⟩ := h
  refine ⟨h1.below hb h1.lt, fun hn => ?_⟩
  obtain ⟨bh, e, hl, hr⟩ := h2 hn
  exact ⟨bh, e, hl, hr.below hb hr.lt⟩
/-- The numbers below k that the heap holds and that are kept. -/
def wants (n : Nat) (H : Nat → Int) (keep : Nat → Bool) (k : Nat) : List Int := ((List.range k).filter fun (p : Nat) => decide (∃ j, j < n ∧ H j = (p : Int)) && keep p).map fun (p : Nat) => (p : Int)
theorem wants_succ (n : Nat) (H : Nat → Int) (keep : Nat → Bool) (k : Nat) : wants n H keep (k + 1) = wants n H keep k ++ (if (decide (∃ j, j < n ∧ H j = (k : Int)) && keep k) = true then [(k : Int)] else []) := by
  unfold wants
  rw [List.range_succ, List.filter_append, List.map_append]
  by_cases h : (decide (∃ j, j < n ∧ H j = (k : Int)) && keep k) = true
  · rw [if_pos h]; simp only [List.filter_cons, h, if_true, List.filter_nil, List.map_cons, List.map_nil]
  · rw [if_neg h]; simp only [List.filter_cons, h, List.filter_nil, Bool.false_eq_true, if_false, List.map_nil]
theorem wants_le (n : Nat) (H : Nat → Int) (keep : Nat → Bool) (k : Nat) : (wants n H keep k).length ≤ k := by
  unfold wants
  rw [List.length_map]
  refine Nat.le_trans (List.length_filter_le _ _) ?_
  simp
theorem mb_bd {Z1 : Nat → Int} {m nT i : Nat} (hz : ∀ j, 0 ≤ Z1 j) : 0 ≤ mbOf Z1 m (nT + 1) i ∧ mbOf Z1 m (nT + 1) i < ((nT + 1 : Nat) : Int) := by
  unfold mbOf
  split
  · exact ⟨Int.emod_nonneg _ (by omega), Int.emod_lt_of_pos _ (by omega)⟩
  · exact ⟨by omega, by omega⟩
theorem wants_strict (n : Nat) (H : Nat → Int) (keep : Nat → Bool) (k : Nat) : (wants n H keep k).Pairwise (· < ·) := by
  induction k with
  | zero => simp [wants]
  | succ k ih =>
    rw [wants_succ, List.pairwise_append]
    refine ⟨ih, by split <;> simp, fun a ha b hb => ?_⟩
    have hlt : a < k := by
      unfold wants at ha
      simp only [List.mem_map, List.mem_filter, List.mem_range] at ha
      obtain ⟨p, ⟨hp, _⟩, rfl⟩ := ha
      omega
    split at hb
    · simp at hb; omega
    · simp at hb
theorem wants_mem (n nm : Nat) (H : Nat → Int) (keep : Nat → Bool) (hH : ∀ j, j < n → ∃ p : Nat, H j = p ∧ p < nm) (x : Int) : x ∈ wants n H keep nm ↔ x ∈ kept keep H n := by
  unfold wants kept
  simp only [List.mem_map, List.mem_filter, List.mem_range, Bool.and_eq_true, decide_eq_true_eq]
  constructor
  · rintro ⟨p, ⟨hp, ⟨j, hj, e⟩, hk⟩, rfl⟩
    exact ⟨⟨j, hj, e⟩, by simpa using hk⟩
  · rintro ⟨⟨j, hj, e⟩, hk⟩
    obtain ⟨p, hp, hpn⟩ := hH j hj
    subst e
    rw [hp] at hk ⊢
    exact ⟨p, ⟨hpn, ⟨j, hj, hp⟩, by simpa using hk⟩, rfl⟩
/-- prune at whatever heap. -/
theorem prune_any (bs bp bt ba bm bw bv lo nm nT nA n : Nat) (hao : Option Addr) (M T O H : Nat → Int) (x : Int) (w : World)
    (hS : SearchAt w bs bp bt ba bm bw nm nT nA) (hM : Row w bm 3 nm (fun j => .int .i64 (M j))) (hT : Row w bw 3 nT (fun j => .int .i64 (T j))) (hA : ∃ c, Blk w ba c 27 ∧ c.size = nA * 6 ∧ AccAt c nA O)
    (hh : HeapAt w bv lo n H hao) (hne : ∀ bh, 0 < n → hao = some ⟨bh, 0, none⟩ → bs ≠ bh ∧ bp ≠ bh ∧ bt ≠ bh ∧ bm ≠ bh ∧ bw ≠ bh)
    (hH : ∀ j, j < n → ∃ p : Nat, H j = p ∧ p < nm) (hMb : ∀ v, v < nm → 0 ≤ M v ∧ M v < nT) (hTb : ∀ t, t < nT → 0 ≤ T t → T t < nA) (d1 : n ≤ 70000) (d2 : nm ≤ 70000) (d3 : nT ≤ 70000) (d4 : nA ≤ 70000) :
    Calls Yba.prog 6 #[.pointer (some ⟨bs, 0, none⟩), .pointer (some ⟨bv, 0, none⟩), .int .i64 x] w fun e w' => e = .returned (.tuple #[]) ∧ Only (fun k => k = bv ∨ (0 < n ∧ hao = some ⟨k, 0, none⟩)) w w' ∧
      ∃ ao c, Blk w' bv #[.slice ao (wants n H (keepB M T O x) nm).length c] 29 ∧ (0 < (wants n H (keepB M T O x) nm).length → ∃ bh, ao = some ⟨bh, 0, none⟩ ∧ ∀ j, j < (wants n H (keepB M T O x) nm).length → w'.cell? ⟨bh, j, none⟩ = some (.int .i64 ((wants n H (keepB M T O x) nm).getD j 0))) := by
  by_cases hpos : 0 < n
  · obtain ⟨bh, rfl, _, hrow⟩ := hh.2 hpos
    obtain ⟨n1, n2, n3, n4, n5⟩ := hne bh hpos rfl
    refine (prune_pos bs bp bt ba bm bw bv bh nm nT nA n M T O H x w hS hM hT hA hh.1 hrow n1 n2 n3 n4 n5 hH hMb hTb d1 d2 d3 d4 hpos).mono ?_
    rintro e w' ⟨rfl, ho, hL⟩
    obtain ⟨h1, h2⟩ := hL (wants n H (keepB M T O x) nm) (sort_compact _ _ (wants_strict _ _ _ _) (wants_mem n nm H _ hH)).symm
    refine ⟨rfl, ho.weak (fun k hk => ?_), _, _, h1, fun _ => ⟨bh, rfl, h2⟩⟩
    rcases hk with rfl | rfl
    · exact .inr ⟨hpos, rfl⟩
    · exact .inl rfl
  · obtain rfl : n = 0 := by omega
    have e0 : wants 0 H (keepB M T O x) nm = [] := by
      refine List.eq_nil_iff_forall_not_mem.2 fun y hy => ?_
      rw [wants_mem 0 nm H _ hH] at hy
      simp [kept] at hy
    rw [e0]
    refine (prune_zero bs bv hao x w hh.1).mono ?_
    rintro e w' ⟨rfl, ho, ao, hb⟩
    exact ⟨rfl, ho.weak (fun k hk => .inl hk), ao, 0, hb, fun h => by simp at h⟩
theorem copied {W : World} {g n : Nat} {cur : Array Value} {f : Nat → Value} {cs : List Value} (hb : Blk W g cur 3) (hc : cur.size = n) (hcs : cs = (List.range n).map f) : Row (W.setRow g (cur.toList.take 0 ++ cs ++ cur.toList.drop (0 + cs.length)).toArray) g 3 n f := by
  subst hcs
  refine ⟨_, Blk.setRow hb, ?_, fun j hj => ?_⟩
  · simp [hc]
  · simp [hc, hj]
theorem src_of {W : World} {b n : Nat} {f : Nat → Value} (h : Row W b 3 n f) : ∀ j v, ((List.range n).map f)[j]? = some v → W.cell? ((⟨b, 0, none⟩ : Addr).add j) = some v := by
  intro j v hv
  have hj : j < n := by have := (List.getElem?_eq_some_iff.1 hv).1; simpa using this
  rw [show (⟨b, 0, none⟩ : Addr).add j = ⟨b, j, none⟩ by unfold Addr.add; split <;> simp_all, h.cell hj, ← hv]
  simp [hj]
/-- 'mc := make([]int, n); copy(mc, members)': the copy. -/
theorem copy_to {W : World} {b n : Nat} {f : Nat → Value} (h : Row W b 3 n f) (hf : ∀ j, (f j).oneCell' = true) :
    ∃ w', (Builtin.copy_ #[24, 24] 3 #[.slice (some ⟨W.heap.size, 0, none⟩) n n, .slice (some ⟨b, 0, none⟩) n n]).run Yba.prog (W.alloc (.cells (madeCells #[.int .i64 0] n) 3)) = .ok (goInt n) w' ∧ Below W.heap.size W w' ∧ Row w' W.heap.size 3 n f := by
  have hsz3 : (Yba.prog.info? 3).map (·.size) = some 1 := by kernel_rfl
  have hcp := run_copy_row (P := Yba.prog) (W.alloc (.cells (madeCells #[.int .i64 0] n) 3)) 24 24 3 3 W.heap.size 0 n n ⟨b, 0, none⟩ n n (madeCells #[.int .i64 0] n) 3 ((List.range n).map f) Yba.underlying24 hsz3 (Blk.new _ _ _) (by simp) (src_of (h.alloc _)) (by rw [size_madeCells]; simp) (by intro v hv; simp at hv; obtain ⟨j, _, rfl⟩ := hv; exact hf j)
  have e : ((List.range n).map f).length = n := by simp
  have h1 := copied (g := W.heap.size) (n := n) (f := f) (cs := (List.range n).map f) (Blk.new W (madeCells #[.int .i64 0] n) 3) (size_madeCells _ _) rfl
  rw [e] at hcp h1
  exact ⟨_, hcp, below_setRow ((Below.refl _ _).alloc (Nat.le_refl _) _) (Nat.le_refl _) _, h1⟩
/-- The cells of the search that the law builds. -/
def searchCells (p m t : Value) : Array Value := #[p, .slice none 0 0, .slice none 0 0, .slice none 0 0, .slice none 0 0, .slice none 0 0, .slice none 0 0, .slice none 0 0, m, .slice none 0 0, .pointer none, .slice none 0 0, .slice none 0 0, .slice none 0 0, .slice none 0 0, .pointer none, t, .slice none 0 0, .slice none 0 0, .slice none 0 0, .slice none 0 0, .slice none 0 0, .slice none 0 0, .slice none 0 0, .slice none 0 0, .int .i64 0, .int .i64 0, .bool false, .int .i64 0, .int .i64 0, .int .i64 0, .map none, .int .i64 0, .int .i64 0, .slice none 0 0, .slice none 0 0, .int .i64 0, .slice none 0 0, .slice none 0 0, .slice none 0 0, .slice none 0 0, .slice none 0 0, .slice none 0 0]
theorem build50 (bp bm nm bw nT : Nat) (w : World) : (Instr.build 50 #[(0, .pointer (some ⟨bp, 0, none⟩)), (8, .slice (some ⟨bm, 0, none⟩) nm nm), (15, .slice (some ⟨bw, 0, none⟩) nT nT)]).run Yba.prog w = .ok (.agg (searchCells (.pointer (some ⟨bp, 0, none⟩)) (.slice (some ⟨bm, 0, none⟩) nm nm) (.slice (some ⟨bw, 0, none⟩) nT nT))) w := by kernel_rfl
theorem wp_build {P : Program} {o : Oper} {a : Act} {w : World} {next : Act → World → Prop} {Q : Exit → Act → World → Prop} (t : TypeId) (parts : Array (Nat × Operand)) (hop : o.op = .build t parts) (ps : Array (Nat × Value)) (v : Value) (hrun : (Instr.build t ps).run P w = .ok v w)
    (hp : parts.map (fun (i, x) => (i, a.eval x)) = ps) (h : next (a.put o.dst v) w) : Oper.wp P o a w next Q := by
  subst hp
  unfold Oper.wp
  simp only [execOp, hop]
  simp [hrun, Result.andThen]
  exact h
/-- The three boxes that the law lays, and what stands beside them. -/
theorem boxed (W8 : World) (B bm q bw nT len3 : Nat) :
    SearchAt (((W8.alloc (.cells #[.slice (some ⟨B, 0, none⟩) len3 len3, .slice none 0 0, .slice none 0 0, .slice none 0 0, .slice none 0 0] 37)).alloc (.cells #[.pointer (some ⟨W8.heap.size, 0, none⟩), .slice none 0 0, .slice none 0 0, .slice none 0 0, .slice none 0 0, .slice none 0 0, .slice none 0 0] 40)).alloc (.cells (searchCells (.pointer (some ⟨W8.heap.size + 1, 0, none⟩)) (.slice (some ⟨bm, 0, none⟩) q q) (.slice (some ⟨bw, 0, none⟩) nT nT)) 50)) (W8.heap.size + 1 + 1) (W8.heap.size + 1) W8.heap.size B bm bw q nT len3 := by
  have h1 := Blk.new ((W8.alloc (.cells #[.slice (some ⟨B, 0, none⟩) len3 len3, .slice none 0 0, .slice none 0 0, .slice none 0 0, .slice none 0 0] 37)).alloc (.cells #[.pointer (some ⟨W8.heap.size, 0, none⟩), .slice none 0 0, .slice none 0 0, .slice none 0 0, .slice none 0 0, .slice none 0 0, .slice none 0 0] 40)) (searchCells (.pointer (some ⟨W8.heap.size + 1, 0, none⟩)) (.slice (some ⟨bm, 0, none⟩) q q) (.slice (some ⟨bw, 0, none⟩) nT nT)) 50
  have h2 := (Blk.new (W8.alloc (.cells #[.slice (some ⟨B, 0, none⟩) len3 len3, .slice none 0 0, .slice none 0 0, .slice none 0 0, .slice none 0 0] 37)) #[.pointer (some ⟨W8.heap.size, 0, none⟩), .slice none 0 0, .slice none 0 0, .slice none 0 0, .slice none 0 0, .slice none 0 0, .slice none 0 0] 40).alloc (.cells (searchCells (.pointer (some ⟨W8.heap.size + 1, 0, none⟩)) (.slice (some ⟨bm, 0, none⟩) q q) (.slice (some ⟨bw, 0, none⟩) nT nT)) 50)
  have h3 := ((Blk.new W8 #[.slice (some ⟨B, 0, none⟩) len3 len3, .slice none 0 0, .slice none 0 0, .slice none 0 0, .slice none 0 0] 37).alloc (.cells #[.pointer (some ⟨W8.heap.size, 0, none⟩), .slice none 0 0, .slice none 0 0, .slice none 0 0, .slice none 0 0, .slice none 0 0, .slice none 0 0] 40)).alloc (.cells (searchCells (.pointer (some ⟨W8.heap.size + 1, 0, none⟩)) (.slice (some ⟨bm, 0, none⟩) q q) (.slice (some ⟨bw, 0, none⟩) nT nT)) 50)
  rw [show ((W8.alloc (.cells #[.slice (some ⟨B, 0, none⟩) len3 len3, .slice none 0 0, .slice none 0 0, .slice none 0 0, .slice none 0 0] 37)).alloc (.cells #[.pointer (some ⟨W8.heap.size, 0, none⟩), .slice none 0 0, .slice none 0 0, .slice none 0 0, .slice none 0 0, .slice none 0 0, .slice none 0 0] 40)).heap.size = W8.heap.size + 1 + 1 by simp] at h1
  rw [show (W8.alloc (.cells #[.slice (some ⟨B, 0, none⟩) len3 len3, .slice none 0 0, .slice none 0 0, .slice none 0 0, .slice none 0 0] 37)).heap.size = W8.heap.size + 1 by simp] at h2
  exact ⟨h1.cell (by rfl), h1.cell (by rfl), h1.cell (by rfl), h2.cell (by rfl), h3.cell (by rfl)⟩
theorem boxed_below (W8 : World) (o1 o2 o3 : Obj) : Below W8.heap.size W8 (((W8.alloc o1).alloc o2).alloc o3) :=
  (((Below.refl _ _).alloc (Nat.le_refl _) _).alloc (by simp) _).alloc (by simp; omega) _
theorem own_only {ok : Nat → Prop} {w w' : World} {base : Nat} {e : TypeId} {size : Nat} {v : Value} {n : Nat} {xs : List Value} (h : w.ownsRow base e size v n xs) (ho : Only ok w w') (hn : ∀ g, base ≤ g → ¬ ok g) : w'.ownsRow base e size v n xs := by
  refine ⟨h.1, ?_⟩
  rcases h.2 with h | ⟨g, cap, cur, h1, h2, h3, h4⟩
  · exact .inl h
  · exact .inr ⟨g, cap, cur, h1, h2, by rw [ho.block g (Array.getElem?_eq_some_iff.1 h3).1 (hn g h2)]; exact h3, h4⟩
theorem SearchAt.only {ok : Nat → Prop} {w w' : World} {bs bp bt ba bm bw nm nT nA : Nat} (h : SearchAt w bs bp bt ba bm bw nm nT nA) (ho : Only ok w w') (n1 : ¬ ok bs) (n2 : ¬ ok bp) (n3 : ¬ ok bt) : SearchAt w' bs bp bt ba bm bw nm nT nA :=
  ⟨ho.cell h.p n1, ho.cell h.mem n1, ho.cell h.wat n1, ho.cell h.at_ n2, ho.cell h.all n3⟩
theorem only_below {ok : Nat → Prop} {B : Nat} {w w' : World} (h : Only ok w w') (hn : ∀ k, ok k → B ≤ k) (hB : B ≤ w.heap.size) : Below B w w' :=
  ⟨h.os, h.tape, h.output, h.size, fun k hk => h.block k (by omega) (fun e => by have := hn k e; omega)⟩
theorem shape_pos {w : World} {base : Nat} {e : TypeId} {ao : Option Addr} {c n : Nat} {xs : List Value} (h : w.ownsRow base e 1 (.slice ao n c) n xs) (hn : 0 < n) : ∃ g, ao = some ⟨g, 0, none⟩ ∧ ∀ j u, xs[j]? = some u → w.cell? ⟨g, j, none⟩ = some u := by
  rcases h.2 with ⟨_, h⟩ | ⟨g, cap, cur, h1, _⟩
  · omega
  · simp only [Value.slice.injEq] at h1
    obtain ⟨rfl, _, rfl⟩ := h1
    refine ⟨g, rfl, fun j u hu => ?_⟩
    have := h.cells (g := g) rfl j u hu
    rwa [show (⟨g, 0, none⟩ : Addr).add j = ⟨g, j, none⟩ by unfold Addr.add; split <;> simp_all] at this
set_option maxRecDepth 100000 in
set_option maxHeartbeats 20000000 in
theorem whole_walk (a0 a1 a2 a3 : Option Addr) (len0 cap0 len1 cap1 len2 cap2 len3 cap3 : Nat) (Z0 Z1 Z2 Z3 : Nat → Int) (xr : Int) (w : World)
    (r0 : Came w .u8 a0 len0 Z0) (r1 : Came w .u8 a1 len1 Z1) (r2 : Came w .i8 a2 len2 Z2) (r3 : Came w .u8 a3 len3 Z3)
    (b0 : ∀ j, 0 ≤ Z0 j ∧ Z0 j ≤ 255) (b1 : ∀ j, 0 ≤ Z1 j ∧ Z1 j ≤ 255) (b2 : ∀ j, -128 ≤ Z2 j ∧ Z2 j ≤ 127) (b3 : ∀ j, 0 ≤ Z3 j ∧ Z3 j ≤ 255) (bx : 0 ≤ xr ∧ xr ≤ 255)
    (hsum : len0 + len1 + len2 + len3 ≤ 65536) (hn0 : a0 = none → len0 = 0) :
    Calls Yba.prog 3 #[.slice a0 len0 cap0, .slice a1 len1 cap1, .slice a2 len2 cap2, .slice a3 len3 cap3, .int .u8 xr] w fun e w' => e = .returned (.bool true) ∧ Below w.heap.size w w' := by
  have mk1 := make_ints len3 (by omega)
  have mk2 := make_acc len3 (by omega)
  have R3 : Hid (Came w .u8 a3 len3 Z3) := r3
  have R2 : Hid (Came w .i8 a2 len2 Z2) := r2
  have R1 : Hid (Came w .u8 a1 len1 Z1) := r1
  have R0 : Hid (Came w .u8 a0 len0 Z0) := r0
  have B0 : Hid (∀ j, 0 ≤ Z0 j ∧ Z0 j ≤ 255) := b0
  have B1 : Hid (∀ j, 0 ≤ Z1 j ∧ Z1 j ≤ 255) := b1
  have B2 : Hid (∀ j, -128 ≤ Z2 j ∧ Z2 j ≤ 127) := b2
  have B3 : Hid (∀ j, 0 ≤ Z3 j ∧ Z3 j ≤ 255) := b3
  have N0 : Hid (a0 = none → len0 = 0) := hn0
  clear r0 r1 r2 r3 b0 b1 b2 b3 hn0
  have hgt : decide (65536 < (len0 : Int) + (len1 : Int) + (len2 : Int) + (len3 : Int)) = false := by simp; omega
  go_enter Yba.func3, Yba.ntmps3
  go_wp2_with fail
  clear mk1 mk2
  go_loopg [14] len3 (fun g i wr => ∃ k : Nat, g = len3 - k ∧ k ≤ len3 ∧ i = .int .i64 k ∧ Below w.heap.size w wr ∧ (∃ c, Blk wr w.heap.size c 3 ∧ c.size = len3 ∧ Upto c k (fun j => .int .i64 (Z3 j % 4))) ∧ ∃ c, Blk wr (w.heap.size + 1) c 27 ∧ c.size = len3 * 6 ∧ AccAt c k (fun j => Z3 j % 4))
  case atStart =>
    exact ⟨0, rfl, Nat.zero_le _, rfl, ((Below.refl _ _).alloc (Nat.le_refl _) _).alloc (by simp) _, ⟨_, (Blk.new _ _ _).alloc _, size_madeCells _ _, Upto.zero _ _⟩, _, by simpa using Blk.new (w.alloc (.cells (madeCells #[.int .i64 0] len3) 3)) (madeCells #[.int .i64 0, .int .i64 0, .int .i64 0, .int .i64 0, .int .i64 0, .int .i64 0] (len3 * 6)) 27, size_madeCells _ _, fun j hj => absurd hj (by omega)⟩
  case round =>
    obtain ⟨k, hg, hk, rfl, hbel, ⟨co, ho, hos, hof⟩, ca, ha, has, haf⟩ := hrel
    have HG : Hid (gk = len3 - k) := hg
    clear hg
    by_cases hlt : k < len3
    ·
      as_aux_lemma =>
        obtain ⟨b, off, rfl, hb, hc⟩ := R3.out (by omega)
        have hcx : wr.cell? ⟨b, off + k, none⟩ = some (.int .u8 (Z3 k)) := (hbel.cell (by exact hb)).trans (hc k hlt)
        obtain ⟨z0, z1⟩ := B3.out k
        clear hc
        obtain ⟨⟨v0, hc0⟩, hf0⟩ := ho.at (i := k) (by omega)
        obtain ⟨⟨x0, e0⟩, ⟨x1, e1⟩, ⟨x2, e2⟩, ⟨x3, e3⟩, ⟨x4, e4⟩, ⟨x5, e5⟩⟩ := ha.at6 (i := k * 6) (by omega)
        have g0 := ha.frozen (k * 6)
        have g1 := ha.frozen (k * 6 + 1)
        have g2 := ha.frozen (k * 6 + 2)
        have g3 := ha.frozen (k * 6 + 3)
        have g4 := ha.frozen (k * 6 + 4)
        have g5 := ha.frozen (k * 6 + 5)
        have HB : Hid (Below w.heap.size w wr ∧ Blk wr w.heap.size co 3 ∧ co.size = len3 ∧ Upto co k (fun j => .int .i64 (Z3 j % 4)) ∧ Blk wr (w.heap.size + 1) ca 27 ∧ ca.size = len3 * 6 ∧ AccAt ca k (fun j => Z3 j % 4)) := ⟨hbel, ho, hos, hof, ha, has, haf⟩
        clear hbel ho hos hof ha has haf
        go_wp2_with fail
        obtain ⟨hbel, ho, hos, hof, ha, has, haf⟩ := HB.out
        go_roundg (len3 - (k + 1))
        case measure => have := HG.out; omega
        case rel => exact ⟨k + 1, rfl, by omega, by go_num, ((((((hbel.setCell (Nat.le_refl _) _).setCell (Nat.le_succ _) _).setCell (Nat.le_succ _) _).setCell (Nat.le_succ _) _).setCell (Nat.le_succ _) _).setCell (Nat.le_succ _) _).setCell (Nat.le_succ _) _, ⟨_, ((((((ho.set _ _).setOther (by simp) _).setOther (by simp) _).setOther (by simp) _).setOther (by simp) _).setOther (by simp) _).setOther (by simp) _, by simpa using hos, hof.step (by omega) rfl⟩, _, ((((((ha.setOther (by simp) _).set _ _).set _ _).set _ _).set _ _).set _ _).set _ _, by simpa using has, haf.step has hlt _ _ _ _ _⟩
    · obtain rfl : len3 = k := by omega
      obtain ⟨W1, hW1⟩ : ∃ W, W = wr := ⟨_, rfl⟩
      subst hW1
      as_aux_lemma =>
        have mk2 := make_ints (len2 + 1) (by omega)
        rw [show ((len2 + 1 : Nat) : Int) = (len2 : Int) + 1 by omega] at mk2
        have HE : Hid (Below w.heap.size w W1 ∧ Row W1 w.heap.size 3 len3 (fun j => .int .i64 (Z3 j % 4)) ∧ (∃ c, Blk W1 (w.heap.size + 1) c 27 ∧ c.size = len3 * 6 ∧ AccAt c len3 (fun j => Z3 j % 4))) := ⟨hbel, ⟨_, ho, hos, hof⟩, _, ha, has, haf⟩
        have hsV : w.heap.size + 1 < W1.heap.size := ha.lt
        clear hbel ho hos hof ha has haf hk HG
        go_wp2_with fail
        clear mk2
        go_loopg [17] (len2 + 1) (fun g i wr => ∃ t : Nat, g = len2 + 1 - t ∧ t ≤ len2 + 1 ∧ i = .int .i64 t ∧ Below W1.heap.size W1 wr ∧ ∃ c, Blk wr W1.heap.size c 3 ∧ c.size = len2 + 1 ∧ Upto c t (fun j => .int .i64 (wtOf Z2 len2 len3 j)))
        case atStart => exact ⟨0, rfl, Nat.zero_le _, rfl, (Below.refl _ _).alloc (Nat.le_refl _) _, _, Blk.new _ _ _, size_madeCells _ _, Upto.zero _ _⟩
        case round =>
          obtain ⟨t, hg, hk, rfl, hbel, c, hb, hcs, hcf⟩ := hrel
          have HG : Hid (gk = len2 + 1 - t) := hg
          clear hg
          by_cases hlt2 : t < len2 + 1
          ·
            as_aux_lemma =>
              obtain ⟨⟨v0, hc0⟩, hf0⟩ := hb.at (i := t) (by omega)
              have HB : Hid (Below W1.heap.size W1 wr ∧ Blk wr W1.heap.size c 3 ∧ c.size = len2 + 1 ∧ Upto c t (fun j => .int .i64 (wtOf Z2 len2 len3 j))) := ⟨hbel, hb, hcs, hcf⟩
              have hW1s : w.heap.size ≤ W1.heap.size := HE.out.1.size
              have hold : ∀ b o v, b < w.heap.size → w.cell? ⟨b, o, none⟩ = some v → wr.cell? ⟨b, o, none⟩ = some v := fun b o v hb h => ((hbel.cell (show b < W1.heap.size by omega)).trans (HE.out.1.cell (by exact hb))).trans h
              clear hbel hb hcs hcf
              by_cases hin : t < len2
              · obtain ⟨b, off, rfl, hb, hc⟩ := R2.out (by omega)
                have hcx : wr.cell? ⟨b, off + t, none⟩ = some (.int .i8 (Z2 t)) := hold _ _ _ hb (hc t hin)
                obtain ⟨z0, z1⟩ := B2.out t
                clear hc hold
                have q1 : decide ((t : Int) < len2) = true := by simp; omega
                have q1' : decide (t < len2) = true := by simp; omega
                by_cases hz : 0 ≤ Z2 t
                · have q2 : decide (0 ≤ Z2 t) = true := by simpa using hz
                  by_cases hA : 0 < len3
                  · have q3 : decide (0 < len3) = true := by simpa using hA
                    go_wp2_with fail
                    obtain ⟨hbel, hb', hcs, hcf⟩ := HB.out
                    go_roundg (len2 + 1 - (t + 1))
                    case measure => have := HG.out; omega
                    case rel => exact ⟨t + 1, rfl, by omega, by go_num, (hbel.setCell (Nat.le_refl _) _).setCell (Nat.le_refl _) _, _, (hb'.set _ _).set _ _, by simpa using hcs, hcf.step2 (by omega) (by rw [wt_in hin hz hA])⟩
                  · have q3 : decide (0 < len3) = false := by simpa using hA
                    go_wp2_with fail
                    obtain ⟨hbel, hb', hcs, hcf⟩ := HB.out
                    go_roundg (len2 + 1 - (t + 1))
                    case measure => have := HG.out; omega
                    case rel => exact ⟨t + 1, rfl, by omega, by go_num, hbel.setCell (Nat.le_refl _) _, _, hb'.set _ _, by simpa using hcs, hcf.step (by omega) (by rw [wt_out (by omega)])⟩
                · have q2 : decide (0 ≤ Z2 t) = false := by simpa using hz
                  go_wp2_with fail
                  obtain ⟨hbel, hb', hcs, hcf⟩ := HB.out
                  go_roundg (len2 + 1 - (t + 1))
                  case measure => have := HG.out; omega
                  case rel => exact ⟨t + 1, rfl, by omega, by go_num, hbel.setCell (Nat.le_refl _) _, _, hb'.set _ _, by simpa using hcs, hcf.step (by omega) (by rw [wt_out (by omega)])⟩
              · have q1 : decide ((t : Int) < len2) = false := by simp; omega
                have q1' : decide (t < len2) = false := by simp; omega
                clear hold
                go_wp2_with fail
                obtain ⟨hbel, hb', hcs, hcf⟩ := HB.out
                go_roundg (len2 + 1 - (t + 1))
                case measure => have := HG.out; omega
                case rel => exact ⟨t + 1, rfl, by omega, by go_num, hbel.setCell (Nat.le_refl _) _, _, hb'.set _ _, by simpa using hcs, hcf.step (by omega) (by rw [wt_out (by omega)])⟩
          · obtain rfl : t = len2 + 1 := by omega
            obtain ⟨W2, hW2⟩ : ∃ W, W = wr := ⟨_, rfl⟩
            subst hW2
            as_aux_lemma =>
              have HE2 : Hid (Env w.heap.size w W2 w.heap.size (w.heap.size + 1) W1.heap.size len3 (len2 + 1) (fun j => Z3 j % 4) (wtOf Z2 len2 len3)) := env_mk HE.out hbel hb hcs hcf
              have hs1 : W1.heap.size < W2.heap.size := hb.lt
              clear hbel hb hcs hcf HE hk HG hlt2 hlt
              go_upto_if 116 with fail
              go_cut [18] (fun v wx => v = .int .i64 (max len1 1 : Nat) ∧ W2 = wx)
              case first =>
                as_aux_lemma =>
                  by_cases hl1 : len1 = 0
                  · subst hl1
                    go_wp2_with fail
                    go_meet
                    case rel => exact ⟨by simp, rfl⟩
                  · have q : ((len1 : Int) == 0) = false := by simp; omega
                    go_wp2_with fail
                    go_meet
                    case rel => exact ⟨by rw [show max len1 1 = len1 by omega], rfl⟩
              case rest =>
                obtain ⟨rfl, rfl⟩ := hcut
                obtain ⟨nm, hnm⟩ : ∃ nm, nm = max len1 1 := ⟨_, rfl⟩
                rw [← hnm]
                have hnm1 : 1 ≤ nm := by omega
                have hnm2 : len1 ≤ nm := by omega
                have hnm3 : nm ≤ 65536 := by omega
                have HN : Hid (nm = max len1 1) := hnm
                clear hnm
                have mk3 := make_ints nm (by omega)
                go_wp2_with fail
                clear mk3
                go_loopg [20] len1 (fun g i wr => ∃ t : Nat, g = len1 - t ∧ t ≤ len1 ∧ i = .int .i64 t ∧ Below W2.heap.size W2 wr ∧ ∃ c, Blk wr W2.heap.size c 3 ∧ c.size = nm ∧ Upto c t (fun j => .int .i64 (mbOf Z1 len1 (len2 + 1) j)) ∧ Zeros c t)
                case atStart => exact ⟨0, rfl, Nat.zero_le _, rfl, (Below.refl _ _).alloc (Nat.le_refl _) _, _, Blk.new _ _ _, size_madeCells _ _, Upto.zero _ _, Zeros.made _⟩
                case round =>
                  obtain ⟨t, hg, hk, rfl, hbel, c, hb, hcs, hcf, hcz⟩ := hrel
                  have HG : Hid (gk = len1 - t) := hg
                  clear hg
                  by_cases hlt3 : t < len1
                  ·
                    as_aux_lemma =>
                      obtain ⟨⟨v0, hc0⟩, hf0⟩ := hb.at (i := t) (by omega)
                      have HB : Hid (Below W2.heap.size W2 wr ∧ Blk wr W2.heap.size c 3 ∧ c.size = nm ∧ Upto c t (fun j => .int .i64 (mbOf Z1 len1 (len2 + 1) j)) ∧ Zeros c t) := ⟨hbel, hb, hcs, hcf, hcz⟩
                      have hW2s : w.heap.size ≤ W2.heap.size := HE2.out.bel.size
                      obtain ⟨b, off, rfl, hb1, hc⟩ := R1.out (by omega)
                      have hcx : wr.cell? ⟨b, off + t, none⟩ = some (.int .u8 (Z1 t)) := ((hbel.cell (show b < W2.heap.size by omega)).trans (HE2.out.bel.cell (by exact hb1))).trans (hc t hlt3)
                      obtain ⟨z0, z1⟩ := B1.out t
                      clear hbel hb hcs hcf hcz hc
                      go_wp2_with fail
                      obtain ⟨hbel, hb', hcs, hcf, hcz⟩ := HB.out
                      go_roundg (len1 - (t + 1))
                      case measure => have := HG.out; omega
                      case rel => exact ⟨t + 1, rfl, by omega, by go_num, hbel.setCell (Nat.le_refl _) _, _, hb'.set _ _, by simpa using hcs, hcf.step (by omega) (by simp [mbOf, hlt3]), hcz.step _⟩
                  · obtain rfl : t = len1 := by omega
                    obtain ⟨W3, hW3⟩ : ∃ W, W = wr := ⟨_, rfl⟩
                    subst hW3
                    as_aux_lemma =>
                      have HE3 : Hid (Env w.heap.size w W3 w.heap.size (w.heap.size + 1) W1.heap.size len3 (len2 + 1) (fun j => Z3 j % 4) (wtOf Z2 len2 len3) ∧ Row W3 W2.heap.size 3 nm (fun j => .int .i64 (mbOf Z1 t (len2 + 1) j))) := ⟨HE2.out.below hbel HE2.out.bel.size, mem_mk hb hcs hcf hcz⟩
                      have hs2 : W2.heap.size < W3.heap.size := hb.lt
                      have hnn := fun wz => run_neq_slice_nil_any (P := Yba.prog) wz 22 5 a0 len0 cap0 0 0 Yba.underlying22
                      clear hbel hb hcs hcf hcz HE2 HG hk hlt3
                      obtain ⟨x0, x1⟩ := bx
                      go_upto_if 139 with fail
                      clear hnn
                      go_cut [] (fun wx => ∃ hao, HeapAt wx W3.heap.size W3.heap.size len0 (fun j => Z0 j % nm) hao ∧ Below W3.heap.size W3 wx)
                      case first =>
                        as_aux_lemma =>
                          cases a0 with
                          | none =>
                            have hl0 : len0 = 0 := N0.out rfl
                            subst hl0
                            go_wp2_with fail
                            go_meet
                            case rel => exact ⟨_, ⟨Blk.new _ _ _, fun h => absurd h (by omega)⟩, (Below.refl _ _).alloc (Nat.le_refl _) _⟩
                          | some x =>
                            have mk4 := make_heap len0 (by omega)
                            go_wp2_with fail
                            clear mk4
                            go_loopg [23] len0 (fun g i wr => ∃ t : Nat, g = len0 - t ∧ t ≤ len0 ∧ i = .int .i64 t ∧ Below W3.heap.size W3 wr ∧ Blk wr W3.heap.size #[.slice (some ⟨W3.heap.size + 1, 0, none⟩) len0 len0] 29 ∧ ∃ c, Blk wr (W3.heap.size + 1) c 3 ∧ c.size = len0 ∧ Upto c t (fun j => .int .i64 (Z0 j % nm)))
                            case atStart => exact ⟨0, rfl, Nat.zero_le _, rfl, ((Below.refl _ _).alloc (Nat.le_refl _) _).alloc (by simp) _, (Blk.new _ _ _).alloc _, _, by simpa using Blk.new (W3.alloc (.cells #[.slice (some ⟨W3.heap.size + 1, 0, none⟩) len0 len0] 29)) (madeCells #[.int .i64 0] len0) 3, size_madeCells _ _, Upto.zero _ _⟩
                            case round =>
                              obtain ⟨t, hg, hk, rfl, hbel, hbv, c, hb, hcs, hcf⟩ := hrel
                              have HG : Hid (gk = len0 - t) := hg
                              clear hg
                              by_cases hlt4 : t < len0
                              · obtain ⟨⟨v0, hc0⟩, hf0⟩ := hb.at (i := t) (by omega)
                                have hcv := hbv.cell (i := 0) (v := .slice (some ⟨W3.heap.size + 1, 0, none⟩) len0 len0) (by rfl)
                                have HB : Hid (Below W3.heap.size W3 wr ∧ Blk wr W3.heap.size #[.slice (some ⟨W3.heap.size + 1, 0, none⟩) len0 len0] 29 ∧ Blk wr (W3.heap.size + 1) c 3 ∧ c.size = len0 ∧ Upto c t (fun j => .int .i64 (Z0 j % nm))) := ⟨hbel, hbv, hb, hcs, hcf⟩
                                have hW3s : w.heap.size ≤ W3.heap.size := HE3.out.1.bel.size
                                obtain ⟨b, off, hx, hb1, hc⟩ := R0.out (by omega)
                                simp only [Option.some.injEq] at hx
                                subst hx
                                have hcx : wr.cell? ⟨b, off + t, none⟩ = some (.int .u8 (Z0 t)) := ((hbel.cell (show b < W3.heap.size by omega)).trans (HE3.out.1.bel.cell (by exact hb1))).trans (hc t hlt4)
                                obtain ⟨z0, z1⟩ := B0.out t
                                clear hbel hb hcs hcf hc hbv
                                go_wp2_with fail
                                go_region
                                go_wp2_with fail
                                obtain ⟨hbel, hbv, hb', hcs, hcf⟩ := HB.out
                                go_roundg (len0 - (t + 1))
                                case measure => have := HG.out; omega
                                case rel => exact ⟨t + 1, rfl, by omega, by go_num, (hbel.setCell (Nat.le_succ _) _).drew, (hbv.setOther (by simp) _).drew, _, (hb'.set _ _).drew, by simpa using hcs, hcf.step (by omega) rfl⟩
                              · obtain rfl : t = len0 := by omega
                                go_wp2_with fail
                                go_meet
                                case rel => exact ⟨_, ⟨hbv, fun _ => ⟨_, rfl, by omega, _, hb, hcs, hcf⟩⟩, hbel⟩
                      case rest =>
                        obtain ⟨hao, hheap, hbel⟩ := hcut
                        obtain ⟨W4, hW4⟩ : ∃ W, W = wc := ⟨_, rfl⟩
                        subst hW4
                        as_aux_lemma =>
                          have HE4 : Hid (Env w.heap.size w W4 w.heap.size (w.heap.size + 1) W1.heap.size len3 (len2 + 1) (fun j => Z3 j % 4) (wtOf Z2 len2 len3) ∧ Row W4 W2.heap.size 3 nm (fun j => .int .i64 (mbOf Z1 t (len2 + 1) j)) ∧ HeapAt W4 W3.heap.size W3.heap.size len0 (fun j => Z0 j % nm) hao) := ⟨HE3.out.1.below hbel HE3.out.1.bel.size, HE3.out.2.below hbel HE3.out.2.lt, hheap⟩
                          have hs3 : W3.heap.size < W4.heap.size := hheap.1.lt
                          clear hheap hbel HE3
                          have mk5 := make_bools nm (by omega)
                          go_wp2_with fail
                          clear mk5
                          go_loopg [25] len0 (fun g i wr => ∃ u : Nat, g = len0 - u ∧ u ≤ len0 ∧ i = .int .i64 u ∧ Below W4.heap.size W4 wr ∧ ∃ c, Blk wr W4.heap.size c 4 ∧ c.size = nm ∧ SeenAt c nm u (fun j => Z0 j % nm))
                          case atStart => exact ⟨0, rfl, Nat.zero_le _, rfl, (Below.refl _ _).alloc (Nat.le_refl _) _, _, Blk.new _ _ _, size_madeCells _ _, SeenAt.start _ _⟩
                          case round =>
                            obtain ⟨u, hg, hk, rfl, hbel, c, hb, hcs, hcf⟩ := hrel
                            have HG : Hid (gk = len0 - u) := hg
                            have hcv := (HE4.out.2.2.below hbel).1.cell (i := 0) (v := .slice hao len0 len0) (by rfl)
                            clear hg
                            by_cases hlt5 : u < len0
                            ·
                              as_aux_lemma =>
                                obtain ⟨bh, rfl, hlo, hrow⟩ := (HE4.out.2.2.below hbel).2 (by omega)
                                have hch := hrow.cell hlt5
                                obtain ⟨p, hp1, hp2⟩ := mod_nat (B0.out u).1 hnm1
                                simp only [hp1] at hch
                                obtain ⟨⟨v0, hc0⟩, hf0⟩ := hb.at (i := p) (by omega)
                                have HP : Hid (Z0 u % nm = p) := hp1
                                have HB : Hid (Below W4.heap.size W4 wr ∧ Blk wr W4.heap.size c 4 ∧ c.size = nm ∧ SeenAt c nm u (fun j => Z0 j % nm)) := ⟨hbel, hb, hcs, hcf⟩
                                clear hbel hb hcs hcf hrow hp1
                                go_wp2_with fail
                                obtain ⟨hbel, hb', hcs, hcf⟩ := HB.out
                                go_roundg (len0 - (u + 1))
                                case measure => have := HG.out; omega
                                case rel => exact ⟨u + 1, rfl, by omega, by go_num, hbel.setCell (Nat.le_refl _) _, _, hb'.set _ _, by simpa using hcs, hcf.step hcs hp2 HP.out⟩
                            · obtain rfl : u = len0 := by omega
                              obtain ⟨W5, hW5⟩ : ∃ W, W = wr := ⟨_, rfl⟩
                              subst hW5
                              as_aux_lemma =>
                                have HE5 : Hid (Env w.heap.size w W5 w.heap.size (w.heap.size + 1) W1.heap.size len3 (len2 + 1) (fun j => Z3 j % 4) (wtOf Z2 len2 len3) ∧ Row W5 W2.heap.size 3 nm (fun j => .int .i64 (mbOf Z1 t (len2 + 1) j)) ∧ HeapAt W5 W3.heap.size W3.heap.size u (fun j => Z0 j % nm) hao ∧ Blk W5 W4.heap.size c 4 ∧ SeenAt c nm u (fun j => Z0 j % nm)) := ⟨HE4.out.1.below hbel HE4.out.1.bel.size, HE4.out.2.1.below hbel HE4.out.2.1.lt, HE4.out.2.2.below hbel, hb, hcf⟩
                                have hs4 : W4.heap.size < W5.heap.size := hb.lt
                                clear hbel hb hcs hcf HE4 HG hk hlt5
                                go_wp2_with fail
                                clear hcv
                                go_loopg [26, 27] nm (fun g v i wr => ∃ q : Nat, g = nm - q ∧ q ≤ nm ∧ i = .int .i64 q ∧ Below W5.heap.size W5 wr ∧ wr.ownsRow W5.heap.size 3 1 v (wants u (fun j => Z0 j % nm) (keepB (mbOf Z1 t (len2 + 1)) (wtOf Z2 len2 len3) (fun j => Z3 j % 4) (xr % 4)) q).length ((wants u (fun j => Z0 j % nm) (keepB (mbOf Z1 t (len2 + 1)) (wtOf Z2 len2 len3) (fun j => Z3 j % 4) (xr % 4)) q).map (Value.int .i64)))
                                case atStart => exact ⟨0, rfl, Nat.zero_le _, rfl, Below.refl _ _, by simpa [wants] using World.ownsRow_nil _ _ _ _⟩
                                case round =>
                                  obtain ⟨q, hg, hk, rfl, hbel, hown⟩ := hrel
                                  have HG : Hid (gk = nm - q) := hg
                                  clear hg
                                  by_cases hlt6 : q < nm
                                  ·
                                    as_aux_lemma =>
                                      have hce := (HE5.out.2.2.2.1.below hbel HE5.out.2.2.2.1.lt).cell (HE5.out.2.2.2.2 q hlt6)
                                      have hkp := keep_any W2.heap.size W1.heap.size w.heap.size nm (len2 + 1) len3 (mbOf Z1 t (len2 + 1)) (wtOf Z2 len2 len3) (fun j => Z3 j % 4) (xr % 4) q wr (HE5.out.2.1.below hbel HE5.out.2.1.lt) (HE5.out.1.wat.below hbel HE5.out.1.wat.lt) (HE5.out.1.objs.below hbel HE5.out.1.objs.lt) hlt6 (mb_bd (fun j => (B1.out j).1)).1 (mb_bd (fun j => (B1.out j).1)).2 wt_bd.2 (by omega) (by omega) (by omega)
                                      have hsuc := wants_succ u (fun j => Z0 j % nm) (keepB (mbOf Z1 t (len2 + 1)) (wtOf Z2 len2 len3) (fun j => Z3 j % 4) (xr % 4)) q
                                      have hwl := wants_le u (fun j => Z0 j % nm) (keepB (mbOf Z1 t (len2 + 1)) (wtOf Z2 len2 len3) (fun j => Z3 j % 4) (xr % 4)) q
                                      generalize hkb : keepB (mbOf Z1 t (len2 + 1)) (wtOf Z2 len2 len3) (fun j => Z3 j % 4) (xr % 4) q = kb at *
                                      generalize hse : decide (∃ j, j < u ∧ Z0 j % (nm : Int) = q) = se at *
                                      generalize hWL : wants u (fun j => Z0 j % nm) (keepB (mbOf Z1 t (len2 + 1)) (wtOf Z2 len2 len3) (fun j => Z3 j % 4) (xr % 4)) q = WL at *
                                      have HS : Hid (wants u (fun j => Z0 j % nm) (keepB (mbOf Z1 t (len2 + 1)) (wtOf Z2 len2 len3) (fun j => Z3 j % 4) (xr % 4)) (q + 1) = WL ++ (if (se && kb) = true then [(q : Int)] else [])) := hsuc
                                      have HK : Hid (Calls Yba.prog 5 #[.slice (some ⟨W2.heap.size, 0, none⟩) nm nm, .slice (some ⟨W1.heap.size, 0, none⟩) (len2 + 1) (len2 + 1), .slice (some ⟨w.heap.size, 0, none⟩) len3 len3, .int .i64 q, .int .i64 (xr % 4)] wr fun e w' => e = .returned (.bool kb) ∧ w' = wr) := hkp
                                      have hWs : W5.heap.size ≤ wr.heap.size := hbel.size
                                      have HB : Hid (Below W5.heap.size W5 wr ∧ wr.ownsRow W5.heap.size 3 1 u26 WL.length (WL.map (Value.int .i64))) := ⟨hbel, hown⟩
                                      clear hsuc hkp hkb hse hWL hbel hown
                                      cases se
                                      · go_wp2_with fail
                                        go_roundg (nm - (q + 1))
                                        case measure => have := HG.out; omega
                                        case rel => exact ⟨q + 1, rfl, by omega, by go_num, HB.out.1, by rw [HS.out]; simpa using HB.out.2⟩
                                      · cases kb
                                        · go_wp2_with fail
                                          refine HK.out.mono ?_
                                          rintro e w' ⟨rfl, hw'⟩
                                          rw [hw']
                                          clear hw'
                                          go_wp2_with fail
                                          go_roundg (nm - (q + 1))
                                          case measure => have := HG.out; omega
                                          case rel => exact ⟨q + 1, rfl, by omega, by go_num, HB.out.1, by rw [HS.out]; simpa using HB.out.2⟩
                                        · go_wp2_with fail
                                          refine HK.out.mono ?_
                                          rintro e w' ⟨rfl, hw'⟩
                                          rw [hw']
                                          clear hw'
                                          obtain ⟨ao, cc, rfl⟩ := owns_shape HB.out.2
                                          obtain ⟨i0, hi0, hz0, hz1, hz2⟩ := info_parts Yba.info3
                                          have HO := fun o => HB.out.2.alloc o
                                          go_wp2_with (at_builtin; go_loud (refine wpList_append_own _ rfl (.tmp 190) (.tmp 192) 24 rfl W5.heap.size 3 i0 (.int .i64 0) 1 8 Yba.underlying24 hi0 hz0 hz1 hz2 rfl (by decide) _ WL.length (WL.map (Value.int .i64)) rfl (HO _) _ 1 1 [.int .i64 q] rfl rfl ?c1 ?c2 ?c3 ?c4 ?c5 ?_))
                                          case c1 => refine news_one ?_; simp [go_sem]
                                          case c2 => simp [Value.oneCell']
                                          case c3 => unfold maxLen; omega
                                          case c4 => omega
                                          case c5 => simp; omega
                                          · intro v' w1 hown1 hg1 _
                                            clear HO hi0 hz0 hz1 hz2
                                            have hrow : ∀ kk, (Value.slice ao WL.length cc).ownBlock = some kk → W5.heap.size ≤ kk := fun kk hkk => (HB.out.2.lt kk hkk).1
                                            have HR : Hid (Below W5.heap.size W5 w1 ∧ w1.ownsRow W5.heap.size 3 1 v' (WL.length + 1) (WL.map (Value.int .i64) ++ [.int .i64 q])) := ⟨(HB.out.1.alloc hWs _).grown hg1 (by simp; omega) hrow, hown1⟩
                                            clear hown1 hg1 hrow
                                            go_wp2_with fail
                                            go_roundg (nm - (q + 1))
                                            case measure => have := HG.out; omega
                                            case rel => exact ⟨q + 1, rfl, by omega, by go_num, HR.out.1, by rw [HS.out]; simpa using HR.out.2⟩
                                  · obtain rfl : q = nm := by omega
                                    obtain ⟨W6, hW6⟩ : ∃ W, W = wr := ⟨_, rfl⟩
                                    subst hW6
                                    as_aux_lemma =>
                                      obtain ⟨ao6, cc6, hu26⟩ := owns_shape hown
                                      generalize hWN : wants u (fun j => Z0 j % q) (keepB (mbOf Z1 t (len2 + 1)) (wtOf Z2 len2 len3) (fun j => Z3 j % 4) (xr % 4)) q = WN at *
                                      subst hu26
                                      have HWN : Hid (wants u (fun j => Z0 j % q) (keepB (mbOf Z1 t (len2 + 1)) (wtOf Z2 len2 len3) (fun j => Z3 j % 4) (xr % 4)) q = WN) := hWN
                                      have hwl : WN.length ≤ q := by rw [← hWN]; exact wants_le _ _ _ _
                                      have HE6 : Hid (Env w.heap.size w W6 w.heap.size (w.heap.size + 1) W1.heap.size len3 (len2 + 1) (fun j => Z3 j % 4) (wtOf Z2 len2 len3) ∧ Row W6 W2.heap.size 3 q (fun j => .int .i64 (mbOf Z1 t (len2 + 1) j)) ∧ HeapAt W6 W3.heap.size W3.heap.size u (fun j => Z0 j % q) hao ∧ W6.ownsRow W5.heap.size 3 1 (.slice ao6 WN.length cc6) WN.length (WN.map (Value.int .i64)) ∧ (∀ bh, 0 < u → hao = some ⟨bh, 0, none⟩ → W3.heap.size ≤ bh ∧ bh < W5.heap.size)) := ⟨HE5.out.1.below hbel HE5.out.1.bel.size, HE5.out.2.1.below hbel HE5.out.2.1.lt, HE5.out.2.2.1.below hbel, hown, fun bh hp e => by obtain ⟨b', e', hl, hr⟩ := HE5.out.2.2.1.2 hp; rw [e] at e'; simp at e'; subst e'; exact ⟨hl, hr.lt⟩⟩
                                      have hs5 : W5.heap.size ≤ W6.heap.size := hbel.size
                                      clear hbel hown hWN HE5 HG hk hlt6
                                      have mk6 := make_ints q (by omega)
                                      have mk7 := make_ints (len2 + 1) (by omega)
                                      rw [show ((len2 + 1 : Nat) : Int) = (len2 : Int) + 1 by omega] at mk7
                                      have hs0' : w.heap.size + 1 < W2.heap.size := by omega
                                      obtain ⟨W7, hcp, hb7, hr7⟩ := copy_to HE6.out.2.1 (fun _ => rfl)
                                      have hcp' : Sem.run Yba.prog (Builtin.copy_ #[24, 24] 3 #[.slice (some ⟨W6.heap.size, 0, none⟩) q q, .slice (some ⟨W2.heap.size, 0, none⟩) q q]) (W6.alloc (.cells (madeCells #[.int .i64 0] q) 3)) = .ok (goInt q) W7 := hcp
                                      have hws7 := HE6.out.1.wat.below hb7 HE6.out.1.wat.lt
                                      obtain ⟨W8, hcq, hb8, hr8⟩ := copy_to hws7 (fun _ => rfl)
                                      have hs6 : W6.heap.size < W7.heap.size := hr7.lt
                                      have hs7 : W7.heap.size < W8.heap.size := hr8.lt
                                      have hb50 := fun wz => build50 (W8.heap.size + 1) W2.heap.size q W1.heap.size (len2 + 1) wz
                                      have HE8 : Hid (Env w.heap.size w W8 w.heap.size (w.heap.size + 1) W1.heap.size len3 (len2 + 1) (fun j => Z3 j % 4) (wtOf Z2 len2 len3) ∧ Row W8 W2.heap.size 3 q (fun j => .int .i64 (mbOf Z1 t (len2 + 1) j)) ∧ HeapAt W8 W3.heap.size W3.heap.size u (fun j => Z0 j % q) hao ∧ W8.ownsRow W5.heap.size 3 1 (.slice ao6 WN.length cc6) WN.length (WN.map (Value.int .i64)) ∧ (∀ bh, 0 < u → hao = some ⟨bh, 0, none⟩ → W3.heap.size ≤ bh ∧ bh < W5.heap.size) ∧ Row W8 W6.heap.size 3 q (fun j => .int .i64 (mbOf Z1 t (len2 + 1) j)) ∧ Row W8 W7.heap.size 3 (len2 + 1) (fun j => .int .i64 (wtOf Z2 len2 len3 j))) :=
                                        ⟨(HE6.out.1.below hb7 HE6.out.1.bel.size).below hb8 (HE6.out.1.below hb7 HE6.out.1.bel.size).bel.size, (HE6.out.2.1.below hb7 HE6.out.2.1.lt).below hb8 (HE6.out.2.1.below hb7 HE6.out.2.1.lt).lt, (HE6.out.2.2.1.below hb7).below hb8, own_below (own_below HE6.out.2.2.2.1 hb7) hb8, HE6.out.2.2.2.2, hr7.below hb8 hr7.lt, hr8⟩
                                      clear hcp hb7 hr7 hb8 hr8 hws7 HE6
                                      go_wp2_with fail
                                      refine wp_build 50 _ rfl _ _ (hb50 _) (by simp [Act.eval]) ?_
                                      clear hb50
                                      go_wp2_with fail
                                      have hS := boxed W8 (w.heap.size + 1) W2.heap.size q W1.heap.size (len2 + 1) len3
                                      have hb9 : Below W8.heap.size W8 (((W8.alloc (.cells #[.slice (some ⟨w.heap.size + 1, 0, none⟩) len3 len3, .slice none 0 0, .slice none 0 0, .slice none 0 0, .slice none 0 0] 37)).alloc (.cells #[.pointer (some ⟨W8.heap.size, 0, none⟩), .slice none 0 0, .slice none 0 0, .slice none 0 0, .slice none 0 0, .slice none 0 0, .slice none 0 0] 40)).alloc (.cells (searchCells (.pointer (some ⟨W8.heap.size + 1, 0, none⟩)) (.slice (some ⟨W2.heap.size, 0, none⟩) q q) (.slice (some ⟨W1.heap.size, 0, none⟩) (len2 + 1) (len2 + 1))) 50)) := boxed_below _ _ _ _
                                      generalize (((W8.alloc (.cells #[.slice (some ⟨w.heap.size + 1, 0, none⟩) len3 len3, .slice none 0 0, .slice none 0 0, .slice none 0 0, .slice none 0 0] 37)).alloc (.cells #[.pointer (some ⟨W8.heap.size, 0, none⟩), .slice none 0 0, .slice none 0 0, .slice none 0 0, .slice none 0 0, .slice none 0 0, .slice none 0 0] 40)).alloc (.cells (searchCells (.pointer (some ⟨W8.heap.size + 1, 0, none⟩)) (.slice (some ⟨W2.heap.size, 0, none⟩) q q) (.slice (some ⟨W1.heap.size, 0, none⟩) (len2 + 1) (len2 + 1))) 50)) = W9 at *
                                      obtain ⟨e1, e2, e3, e4, e5, e6, e7⟩ := HE8.out
                                      have f1 := e1.below hb9 e1.bel.size
                                      have f2 := e2.below hb9 e2.lt
                                      have f3 := e3.below hb9
                                      have f4 := own_below e4 hb9
                                      have f6 := e6.below hb9 e6.lt
                                      have f7 := e7.below hb9 e7.lt
                                      have hs0 : w.heap.size + 1 < W2.heap.size := hs0'
                                      refine (prune_any (W8.heap.size + 1 + 1) (W8.heap.size + 1) W8.heap.size (w.heap.size + 1) W2.heap.size W1.heap.size W3.heap.size W3.heap.size q (len2 + 1) len3 u hao (mbOf Z1 t (len2 + 1)) (wtOf Z2 len2 len3) (fun j => Z3 j % 4) (fun j => Z0 j % q) (xr % 4) _ hS f2 f1.wat f1.acc f3 (fun bh hp e => by have := e5 bh hp e; omega) (fun j _ => mod_nat (B0.out j).1 hnm1) (fun v _ => mb_bd (fun j => (B1.out j).1)) (fun t' _ => wt_bd.2) (by omega) (by omega) (by omega) (by omega)).mono ?_
                                      rintro e W10 ⟨rfl, hon, hwx⟩
                                      rw [HWN.out] at hwx
                                      obtain ⟨ao, cx, hbv, hcx⟩ := hwx
                                      have hok : ∀ k, (k = W3.heap.size ∨ (0 < u ∧ hao = some ⟨k, 0, none⟩)) → W3.heap.size ≤ k ∧ k < W5.heap.size := by
                                        rintro k (rfl | ⟨hp, e⟩)
                                        · omega
                                        · exact e5 k hp e
                                      have HF : Hid (Below w.heap.size w W10 ∧ SearchAt W10 (W8.heap.size + 1 + 1) (W8.heap.size + 1) W8.heap.size (w.heap.size + 1) W2.heap.size W1.heap.size q (len2 + 1) len3 ∧ Row W10 w.heap.size 3 len3 (fun j => .int .i64 (Z3 j % 4)) ∧ (∃ c, Blk W10 (w.heap.size + 1) c 27 ∧ c.size = len3 * 6 ∧ AccAt c len3 (fun j => Z3 j % 4)) ∧ Row W10 W1.heap.size 3 (len2 + 1) (fun j => .int .i64 (wtOf Z2 len2 len3 j)) ∧ Row W10 W2.heap.size 3 q (fun j => .int .i64 (mbOf Z1 t (len2 + 1) j)) ∧ W10.ownsRow W5.heap.size 3 1 (.slice ao6 WN.length cc6) WN.length (WN.map (Value.int .i64)) ∧ Row W10 W6.heap.size 3 q (fun j => .int .i64 (mbOf Z1 t (len2 + 1) j)) ∧ Row W10 W7.heap.size 3 (len2 + 1) (fun j => .int .i64 (wtOf Z2 len2 len3 j)) ∧ Blk W10 W3.heap.size #[.slice ao WN.length cx] 29 ∧ (0 < WN.length → ∃ bh, ao = some ⟨bh, 0, none⟩ ∧ ∀ j, j < WN.length → W10.cell? ⟨bh, j, none⟩ = some (.int .i64 (WN.getD j 0)))) := by
                                        obtain ⟨c27, a1', a2', a3'⟩ := f1.acc
                                        have nn : ∀ k, k < W3.heap.size ∨ W5.heap.size ≤ k → ¬ (k = W3.heap.size ∨ (0 < u ∧ hao = some ⟨k, 0, none⟩)) := fun k hk h => by have := hok k h; omega
                                        refine ⟨f1.bel.trans (only_below hon (fun k h => by have := hok k h; omega) f1.bel.size), hS.only hon (nn _ (by omega)) (nn _ (by omega)) (nn _ (by omega)), hon.row f1.objs (nn _ (by omega)), ⟨c27, hon.blk a1' (nn _ (by omega)), a2', a3'⟩, hon.row f1.wat (nn _ (by omega)), hon.row f2 (nn _ (by omega)), own_only f4 hon (fun g hg => nn g (.inr hg)), hon.row f6 (nn _ (by omega)), hon.row f7 (nn _ (by omega)), hbv, hcx⟩
                                      clear hS hb9 e1 e2 e3 e4 e5 e6 e7 f1 f2 f3 f4 f6 f7 hon hbv hcx hok HE8 R0 R1 R2 R3 B0 B1 B2 B3 N0 HWN
                                      as_aux_lemma =>
                                        have hcv := HF.out.2.2.2.2.2.2.2.2.2.1.cell (i := 0) (v := .slice ao WN.length cx) (by rfl)
                                        go_wp2_with fail
                                        go_loopg [31] (WN.length) (fun g i wr => ∃ j mm : Nat, g = WN.length - j ∧ j ≤ WN.length ∧ i = .int .i64 j ∧ wr = W10.drewN mm)
                                        case atStart => exact ⟨0, 0, rfl, Nat.zero_le _, rfl, rfl⟩
                                        case round =>
                                          obtain ⟨j, mm, hg, hj, rfl, rfl⟩ := hrel
                                          have HG : Hid (gk = WN.length - j) := hg
                                          clear hg
                                          by_cases hlt : j < WN.length
                                          ·
                                            as_aux_lemma =>
                                              obtain ⟨bh, rfl, hh⟩ := HF.out.2.2.2.2.2.2.2.2.2.2 (by omega)
                                              obtain ⟨g6, rfl, h6⟩ := shape_pos HF.out.2.2.2.2.2.2.1 (by omega)
                                              have y1 := hh j hlt
                                              have y2 := h6 j (.int .i64 (WN.getD j 0)) (by simp [List.getD, hlt])
                                              clear hh h6
                                              go_wp2_with fail
                                              go_quiet (fail)
                                              go_wp2_with fail
                                              go_roundg (WN.length - (j + 1))
                                              case measure => have := HG.out; omega
                                              case rel => exact ⟨j + 1, _, rfl, by omega, by go_num, rfl⟩
                                          · clear HG
                                            go_wp2_with fail
                                            clear hlt
                                            as_aux_lemma =>
                                              go_loopg [32] (q) (fun g i wr => ∃ j mm : Nat, g = q - j ∧ j ≤ q ∧ i = .int .i64 j ∧ wr = W10.drewN mm)
                                              case atStart => exact ⟨0, mm, rfl, Nat.zero_le _, rfl, rfl⟩
                                              case round =>
                                                obtain ⟨j, mm, hg, hj, rfl, rfl⟩ := hrel
                                                have HG : Hid (gk = q - j) := hg
                                                clear hg
                                                by_cases hlt : j < q
                                                ·
                                                  as_aux_lemma =>
                                                    have y1 := HF.out.2.1.mem
                                                    have y2 := HF.out.2.2.2.2.2.1.cell hlt
                                                    have y3 := HF.out.2.2.2.2.2.2.2.1.cell hlt
                                                    go_wp2_with fail
                                                    go_quiet (fail)
                                                    go_wp2_with fail
                                                    go_roundg (q - (j + 1))
                                                    case measure => have := HG.out; omega
                                                    case rel => exact ⟨j + 1, _, rfl, by omega, by go_num, rfl⟩
                                                · clear HG
                                                  go_wp2_with fail
                                                  clear hlt
                                                  as_aux_lemma =>
                                                    go_loopg [33] ((len2 + 1)) (fun g i wr => ∃ j mm : Nat, g = (len2 + 1) - j ∧ j ≤ (len2 + 1) ∧ i = .int .i64 j ∧ wr = W10.drewN mm)
                                                    case atStart => exact ⟨0, mm, rfl, Nat.zero_le _, rfl, rfl⟩
                                                    case round =>
                                                      obtain ⟨j, mm, hg, hj, rfl, rfl⟩ := hrel
                                                      have HG : Hid (gk = (len2 + 1) - j) := hg
                                                      clear hg
                                                      by_cases hlt : j < (len2 + 1)
                                                      ·
                                                        as_aux_lemma =>
                                                          have y1 := HF.out.2.1.wat
                                                          have y2 := HF.out.2.2.2.2.1.cell hlt
                                                          have y3 := HF.out.2.2.2.2.2.2.2.2.1.cell hlt
                                                          go_wp2_with fail
                                                          go_quiet (fail)
                                                          go_wp2_with fail
                                                          go_roundg ((len2 + 1) - (j + 1))
                                                          case measure => have := HG.out; omega
                                                          case rel => exact ⟨j + 1, _, rfl, by omega, by go_num, rfl⟩
                                                      · clear HG
                                                        go_wp2_with fail
                                                        clear hlt
                                                        as_aux_lemma =>
                                                          go_loopg [34] (len3) (fun g i wr => ∃ j mm : Nat, g = len3 - j ∧ j ≤ len3 ∧ i = .int .i64 j ∧ wr = W10.drewN mm)
                                                          case atStart => exact ⟨0, mm, rfl, Nat.zero_le _, rfl, rfl⟩
                                                          case round =>
                                                            obtain ⟨j, mm, hg, hj, rfl, rfl⟩ := hrel
                                                            have HG : Hid (gk = len3 - j) := hg
                                                            clear hg
                                                            by_cases hlt : j < len3
                                                            ·
                                                              as_aux_lemma =>
                                                                have y1 := HF.out.2.1.p
                                                                have y2 := HF.out.2.1.at_
                                                                have y3 := HF.out.2.1.all
                                                                obtain ⟨c27, z1, z2, z3⟩ := HF.out.2.2.2.1
                                                                have y4 := z1.cell (z3 j hlt)
                                                                have y5 := HF.out.2.2.1.cell hlt
                                                                clear z1 z2 z3
                                                                go_wp2_with fail
                                                                go_quiet (fail)
                                                                go_wp2_with fail
                                                                go_roundg (len3 - (j + 1))
                                                                case measure => have := HG.out; omega
                                                                case rel => exact ⟨j + 1, _, rfl, by omega, by go_num, rfl⟩
                                                            · clear HG
                                                              go_wp2_with fail
                                                              go_ret
                                                              exact ⟨rfl, belowN HF.out.1 _⟩

end Go.Proofs.Ybulkdknq
