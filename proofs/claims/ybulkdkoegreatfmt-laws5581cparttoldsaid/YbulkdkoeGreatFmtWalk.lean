/-
  LawS5581CPart: the walk of the law.
-/
import Derived.Test.YbulkdkoeGreatFmtTurns
namespace Go.Proofs.YbulkdkoeGreatFmt
open Go.ChangeShapes Go.WideShapes Go.ChangeAt Go.RowKit
set_option linter.unusedVariables false
theorem info62 : (Ybaz.prog.info? 62).map (fun i => (i.zero, i.size, i.bytes)) = some (some (.agg (peerCells (.pointer none) (.slice none 0 0))), 12, 208) := by kernel_rfl
theorem info66 : (Ybaz.prog.info? 66).map (fun i => (i.zero, i.size, i.bytes)) = some (some (.pointer none), 1, 8) := by kernel_rfl
theorem info4 : (Ybaz.prog.info? 4).map (fun i => (i.zero, i.size, i.bytes)) = some (some (.bool false), 1, 1) := by kernel_rfl
theorem make_peers (w : World) : (Instr.makeSlice 33 (.int .i64 4) (.int .i64 4)).run Ybaz.prog w = .ok (.slice (some ⟨w.heap.size, 0, none⟩) 4 4) (w.alloc (.cells (madeCells (peerCells (.pointer none) (.slice none 0 0)) 48) 62)) := by
  obtain ⟨i, hi, hz0, hz1, hz2⟩ := info_parts info62
  have := run_make (P := Ybaz.prog) w 33 62 i _ Ybaz.underlying33 hi hz0 .i64 .i64 4 4 (by omega) (by omega) (by rw [hz2]; omega) (by omega)
  rw [hz1] at this
  simpa [Value.cells] using this
theorem make_ptrs (n : Nat) (hn : n ≤ 2000000) (w : World) : (Instr.makeSlice 45 (.int .i64 (n : Int)) (.int .i64 (n : Int))).run Ybaz.prog w = .ok (.slice (some ⟨w.heap.size, 0, none⟩) n n) (w.alloc (.cells (madeCells #[.pointer none] n) 66)) := by
  obtain ⟨i, hi, hz0, hz1, hz2⟩ := info_parts info66
  have := run_make (P := Ybaz.prog) w 45 66 i _ Ybaz.underlying45 hi hz0 .i64 .i64 n n (by omega) (by omega) (by rw [hz2]; omega) (by omega)
  rw [hz1] at this
  simpa [Value.cells] using this
theorem make_bools (n : Nat) (hn : n ≤ 2000000) (w : World) : (Instr.makeSlice 63 (.int .i64 (n : Int)) (.int .i64 (n : Int))).run Ybaz.prog w = .ok (.slice (some ⟨w.heap.size, 0, none⟩) n n) (w.alloc (.cells (madeCells #[.bool false] n) 4)) := by
  obtain ⟨i, hi, hz0, hz1, hz2⟩ := info_parts info4
  have := run_make (P := Ybaz.prog) w 63 4 i _ Ybaz.underlying63 hi hz0 .i64 .i64 n n (by omega) (by omega) (by rw [hz2]; omega) (by omega)
  rw [hz1] at this
  simpa [Value.cells] using this
def simCells (sc pe : Value) : Array Value := #[sc, .nilIface, .float .f64 0, .int .i64 0, .bool false, .pointer none, .float .f64 0, .slice none 0 0, .int .u64 0, .slice none 0 0, pe, .slice none 0 0, .slice none 0 0, .int .u64 0, .int .u64 0, .slice none 0 0, .slice none 0 0, .slice none 0 0, .slice none 0 0, .int .u64 0, .slice none 0 0, .slice none 0 0, .nilIface]
theorem build32 (w : World) : (Instr.build 32 #[]).run Ybaz.prog w = .ok (.agg #[.int .i64 0, .float .f64 0, .int .i64 0, .slice none 0 0, .slice none 0 0]) w := by kernel_rfl
theorem build56 (b1 b2 : Nat) (w : World) : (Instr.build 56 #[(0, .pointer (some ⟨b1, 0, none⟩)), (7, .slice (some ⟨b2, 0, none⟩) 4 4)]).run Ybaz.prog w = .ok (.agg (simCells (.pointer (some ⟨b1, 0, none⟩)) (.slice (some ⟨b2, 0, none⟩) 4 4))) w := by kernel_rfl
theorem build74 (i : Bool) (g t : Int) (wt : Bool) (r : Int) (w : World) : (Instr.build 74 #[(4, .bool i), (0, .int .i64 g), (1, .int .i64 t), (11, .bool wt), (10, .int .u64 r)]).run Ybaz.prog w = .ok (.agg #[.int .i64 g, .int .i64 t, .int .i64 0, .int .u32 0, .bool i, .bool false, .int .i32 0, .int .i32 0, .slice none 0 0, .slice none 0 0, .int .u64 r, .bool wt, .pointer none, .pointer none, .slice none 0 0, .slice none 0 0]) w := by kernel_rfl
theorem build77 (w : World) : (Instr.build 77 #[]).run Ybaz.prog w = .ok (.agg #[.pointer none, .int .i64 0, .int .i64 0, .pointer none, .int .i64 0, .float .f64 0, .bool false]) w := by kernel_rfl
theorem build62 (bt m : Nat) (p : Option Addr) (w : World) : (Instr.build 62 #[(8, .slice (some ⟨bt, 0, none⟩) m m), (7, .pointer p)]).run Ybaz.prog w = .ok (.agg (peerCells (.pointer p) (.slice (some ⟨bt, 0, none⟩) m m))) w := by kernel_rfl
theorem wp_build {P : Program} {o : Oper} {a : Act} {w : World} {next : Act → World → Prop} {Q : Exit → Act → World → Prop} (t : TypeId) (parts : Array (Nat × Operand)) (hop : o.op = .build t parts) (ps : Array (Nat × Value)) (v : Value) (hrun : (Instr.build t ps).run P w = .ok v w)
    (hp : parts.map (fun (i, x) => (i, a.eval x)) = ps) (h : next (a.put o.dst v) w) : Oper.wp P o a w next Q := by
  subst hp
  unfold Oper.wp
  simp only [execOp, hop]
  simp [hrun, Result.andThen]
  exact h
theorem Blk.at {w : World} {b : Nat} {c : Array Value} {t : TypeId} (h : Blk w b c t) {i : Nat} (hi : i < c.size) : (∃ v, w.cell? ⟨b, i, none⟩ = some v) ∧ w.frozen? ⟨b, i, none⟩ = false :=
  ⟨⟨_, h.cell (Array.getElem?_eq_getElem hi)⟩, h.frozen i⟩
/-- The slice of sources that came in. -/
def Srcs (w : World) (ao : Option Addr) (n : Nat) (I Wt : Nat → Bool) (g8 t8 : Nat → Nat) : Prop := 0 < n → ∃ b o, ao = some ⟨b, o, none⟩ ∧ b < w.heap.size ∧ ∀ j, j < n → w.cell? ⟨b, o + j * 4, none⟩ = some (.bool (I j)) ∧ w.cell? ⟨b, o + j * 4 + 1, none⟩ = some (.int .u8 (g8 j)) ∧ w.cell? ⟨b, o + j * 4 + 2, none⟩ = some (.int .u8 (t8 j)) ∧ w.cell? ⟨b, o + j * 4 + 3, none⟩ = some (.bool (Wt j))
theorem Srcs.below {B : Nat} {w w' : World} {ao : Option Addr} {n : Nat} {I Wt : Nat → Bool} {g8 t8 : Nat → Nat} (h : Srcs w ao n I Wt g8 t8) (hb : Below B w w') (hB : w.heap.size ≤ B := by exact Nat.le_refl _) : Srcs w' ao n I Wt g8 t8 := by
  intro hn
  obtain ⟨b, o, h1, h2, h3⟩ := h hn
  refine ⟨b, o, h1, Nat.lt_of_lt_of_le h2 hb.size, fun j hj => ?_⟩
  obtain ⟨k1, k2, k3, k4⟩ := h3 j hj
  have hc : ∀ x, w'.cell? ⟨b, x, none⟩ = w.cell? ⟨b, x, none⟩ := fun x => hb.cell (p := ⟨b, x, none⟩) (Nat.lt_of_lt_of_le h2 hB)
  rw [hc, hc, hc, hc]
  exact ⟨k1, k2, k3, k4⟩
/-- The references that came in. -/
def Refs (w : World) (ao : Option Addr) (n : Nat) (r8 : Nat → Nat) : Prop := 0 < n → ∃ b o, ao = some ⟨b, o, none⟩ ∧ b < w.heap.size ∧ ∀ j, j < n → w.cell? ⟨b, o + j, none⟩ = some (.int .u8 (r8 j))
theorem Refs.below {B : Nat} {w w' : World} {ao : Option Addr} {n : Nat} {r8 : Nat → Nat} (h : Refs w ao n r8) (hb : Below B w w') (hB : w.heap.size ≤ B := by exact Nat.le_refl _) : Refs w' ao n r8 := by
  intro hn
  obtain ⟨b, o, h1, h2, h3⟩ := h hn
  refine ⟨b, o, h1, Nat.lt_of_lt_of_le h2 hb.size, fun j hj => ?_⟩
  rw [hb.cell (p := ⟨b, o + j, none⟩) (Nat.lt_of_lt_of_le h2 hB)]
  exact h3 j hj
/-- What came in, and the two clones. -/
structure Came (w W : World) (a1 : Option Addr) (n1 : Nat) (I Wt : Nat → Bool) (g8 t8 : Nat → Nat) (a2 : Option Addr) (m : Nat) (r8 : Nat → Nat) (a3 aD aK : Option Addr) (nz : Nat) (Z : Nat → Int) : Prop where
  bel : Below w.heap.size w W
  srcs : Srcs W a1 n1 I Wt g8 t8
  refs : Refs W a2 m r8
  i3 : Ints W a3 nz Z
  iD : Ints W aD nz Z
  iK : Ints W aK nz Z
theorem Came.below {w W W' : World} {a1 : Option Addr} {n1 : Nat} {I Wt : Nat → Bool} {g8 t8 : Nat → Nat} {a2 : Option Addr} {m : Nat} {r8 : Nat → Nat} {a3 aD aK : Option Addr} {nz : Nat} {Z : Nat → Int} (h : Came w W a1 n1 I Wt g8 t8 a2 m r8 a3 aD aK nz Z) (hb : Below W.heap.size W W') : Came w W' a1 n1 I Wt g8 t8 a2 m r8 a3 aD aK nz Z :=
  ⟨h.bel.trans (hb.mono h.bel.size), h.srcs.below hb, h.refs.below hb, h.i3.below hb, h.iD.below hb, h.iK.below hb⟩
def DeclAt (c : Array Value) (k : Nat) (v : Value) : Prop := ∀ j, j < k → c[j * 12 + 11]? = some v
theorem DeclAt.step {c : Array Value} {k : Nat} {v : Value} (h : DeclAt c k v) (hc : c.size = 48) (hk : k < 4) : DeclAt (c.setIfInBounds (k * 12 + 11) v) (k + 1) v := by
  intro j hj
  rw [Array.getElem?_setIfInBounds]
  by_cases e : j = k
  · subst e
    rw [if_pos rfl, if_pos (by omega)]
  · rw [if_neg (by omega)]
    exact h j (by omega)
structure L1 (W2 wr : World) (B k : Nat) (v : Value) : Prop where
  bel : Below B W2 wr
  size : wr.heap.size = B + 3
  sim : Blk wr (B + 1 + 1) (simCells (.pointer (some ⟨B, 0, none⟩)) (.slice (some ⟨B + 1, 0, none⟩) 4 4)) 56
  peers : ∃ c, Blk wr (B + 1) c 62 ∧ c.size = 48 ∧ DeclAt c k v
theorem L1.start (W2 : World) (o : Obj) (v : Value) (sc : Array Value) (hsc : sc = simCells (.pointer (some ⟨W2.heap.size, 0, none⟩)) (.slice (some ⟨W2.heap.size + 1, 0, none⟩) 4 4)) : L1 W2 (((W2.alloc o).alloc (.cells (madeCells (peerCells (.pointer none) (.slice none 0 0)) 48) 62)).alloc (.cells sc 56)) W2.heap.size 0 v := by
  subst hsc
  refine ⟨(((Below.refl _ _).alloc (Nat.le_refl _) _).alloc (by simp) _).alloc (by simp; omega) _, by simp, ?_, madeCells (peerCells (.pointer none) (.slice none 0 0)) 48, ?_, size_madeCells _ _, fun j hj => absurd hj (by omega)⟩
  · have := Blk.new ((W2.alloc o).alloc (.cells (madeCells (peerCells (.pointer none) (.slice none 0 0)) 48) 62)) (simCells (.pointer (some ⟨W2.heap.size, 0, none⟩)) (.slice (some ⟨W2.heap.size + 1, 0, none⟩) 4 4)) 56
    simpa using this
  · have := (Blk.new (W2.alloc o) (madeCells (peerCells (.pointer none) (.slice none 0 0)) 48) 62).alloc (.cells (simCells (.pointer (some ⟨W2.heap.size, 0, none⟩)) (.slice (some ⟨W2.heap.size + 1, 0, none⟩) 4 4)) 56)
    simpa using this
theorem L1.step {W2 wr : World} {B k : Nat} {v : Value} (h : L1 W2 wr B k v) (hk : k < 4) : L1 W2 (wr.setCell ⟨B + 1, k * 12 + 11, none⟩ v) B (k + 1) v := by
  obtain ⟨c, h1, h2, h3⟩ := h.peers
  exact ⟨h.bel.setCell (by simp) _, by simpa [World.setCell] using h.size, h.sim.setOther (by simp) _, _, h1.set _ _, by simpa using h2, h3.step h2 hk⟩
theorem L1.simAt {W2 wr : World} {B nz cD : Nat} {aD : Option Addr} {Z : Nat → Int} (h : L1 W2 wr B 4 (.slice aD nz cD)) (hI : Ints wr aD nz Z) : SimAt wr (B + 1 + 1) (B + 1) aD nz cD Z := by
  obtain ⟨c, h1, h2, h3⟩ := h.peers
  exact ⟨h.sim.cell rfl, fun k hk => h1.cell (h3 k hk), hI⟩
structure L2 (W4 wr : World) (P n i : Nat) (I Wt : Nat → Bool) (G T : Nat → Nat) : Prop where
  bel : Below P W4 wr
  size : wr.heap.size = P + 3 + 2 * i
  pool : ∃ c, Blk wr P c 66 ∧ c.size = n ∧ Upto c i (fun k => .pointer (some ⟨P + 4 + 2 * k, 0, none⟩))
  idle : ∃ c, Blk wr (P + 1) c 4 ∧ c.size = n ∧ Upto c i (fun k => .bool (I k))
  waits : ∃ c, Blk wr (P + 1 + 1) c 4 ∧ c.size = n ∧ Upto c i (fun k => .bool (Wt k))
  src : ∀ k, k < i → Blk wr (P + 4 + 2 * k) (srcCells (I k) (G k) (T k) (Wt k) ((k : Int) + 1)) 74
theorem L2.start (W4 : World) (n : Nat) (I Wt : Nat → Bool) (G T : Nat → Nat) : L2 W4 (((W4.alloc (.cells (madeCells #[.pointer none] n) 66)).alloc (.cells (madeCells #[.bool false] n) 4)).alloc (.cells (madeCells #[.bool false] n) 4)) W4.heap.size n 0 I Wt G T := by
  refine ⟨(((Below.refl _ _).alloc (Nat.le_refl _) _).alloc (by simp) _).alloc (by simp; omega) _, by simp, ⟨madeCells #[.pointer none] n, ?_, size_madeCells _ _, Upto.zero _ _⟩, ⟨madeCells #[.bool false] n, ?_, size_madeCells _ _, Upto.zero _ _⟩, ⟨madeCells #[.bool false] n, ?_, size_madeCells _ _, Upto.zero _ _⟩, fun k hk => absurd hk (by omega)⟩
  · exact ((Blk.new W4 _ 66).alloc _).alloc _
  · have := (Blk.new (W4.alloc (.cells (madeCells #[.pointer none] n) 66)) (madeCells #[.bool false] n) 4).alloc (.cells (madeCells #[.bool false] n) 4)
    simpa using this
  · have := Blk.new ((W4.alloc (.cells (madeCells #[.pointer none] n) 66)).alloc (.cells (madeCells #[.bool false] n) 4)) (madeCells #[.bool false] n) 4
    simpa using this
theorem L2.step {W4 wr wx : World} {P n i : Nat} {I Wt : Nat → Bool} {G T : Nat → Nat} {cs : Array Value} (h : L2 W4 wr P n i I Wt G T) (hi : i < n) (hx : Below wr.heap.size wr wx) (hxs : wx.heap.size = wr.heap.size + 1) (hcs : cs = srcCells (I i) (G i) (T i) (Wt i) ((i : Int) + 1)) :
    L2 W4 ((((wx.setCell ⟨P, i, none⟩ (.pointer (some ⟨wx.heap.size, 0, none⟩))).setCell ⟨P + 1, i, none⟩ (.bool (I i))).setCell ⟨P + 1 + 1, i, none⟩ (.bool (Wt i))).alloc (.cells cs 74)) P n (i + 1) I Wt G T := by
  subst hcs
  have hsz := h.size
  obtain ⟨c1, h1, h1s, h1u⟩ := h.pool
  obtain ⟨c2, h2, h2s, h2u⟩ := h.idle
  obtain ⟨c3, h3, h3s, h3u⟩ := h.waits
  have keep : ∀ b c t, Blk wr b c t → Blk wx b c t := fun b c t hb => hb.below hx hb.lt
  have hs1 : wx.heap.size = P + 4 + 2 * i := by omega
  have hb1 : Below P W4 wx := h.bel.trans (hx.mono (by omega))
  have hs2 : (((wx.setCell ⟨P, i, none⟩ (.pointer (some ⟨wx.heap.size, 0, none⟩))).setCell ⟨P + 1, i, none⟩ (.bool (I i))).setCell ⟨P + 1 + 1, i, none⟩ (.bool (Wt i))).heap.size = P + 4 + 2 * i := by simpa [World.setCell] using hs1
  refine ⟨(((hb1.setCell (Nat.le_refl _) _).setCell (by simp) _).setCell (by simp; omega) _).alloc (by omega) _, ?_, ⟨c1.setIfInBounds i (.pointer (some ⟨wx.heap.size, 0, none⟩)), ?_, by simpa using h1s, h1u.step (by omega) (by rw [hs1])⟩, ⟨c2.setIfInBounds i (.bool (I i)), ?_, by simpa using h2s, h2u.step (by omega) rfl⟩, ⟨c3.setIfInBounds i (.bool (Wt i)), ?_, by simpa using h3s, h3u.step (by omega) rfl⟩, fun k hk => ?_⟩
  · show (Array.push _ _).size = _
    rw [Array.size_push, hs2]; omega
  · exact ((((keep _ _ _ h1).set i _).setOther (a := ⟨P + 1, i, none⟩) (by simp) _).setOther (a := ⟨P + 1 + 1, i, none⟩) (by simp; omega) _).alloc _
  · exact ((((keep _ _ _ h2).setOther (a := ⟨P, i, none⟩) (by simp) _).set i _).setOther (a := ⟨P + 1 + 1, i, none⟩) (by simp) _).alloc _
  · exact ((((keep _ _ _ h3).setOther (a := ⟨P, i, none⟩) (by simp; omega) _).setOther (a := ⟨P + 1, i, none⟩) (by simp) _).set i _).alloc _
  · by_cases e : k = i
    · subst e
      have := Blk.new (((wx.setCell ⟨P, k, none⟩ (.pointer (some ⟨wx.heap.size, 0, none⟩))).setCell ⟨P + 1, k, none⟩ (.bool (I k))).setCell ⟨P + 1 + 1, k, none⟩ (.bool (Wt k))) (srcCells (I k) (G k) (T k) (Wt k) ((k : Int) + 1)) 74
      rwa [hs2] at this
    · have hk' := keep _ _ _ (h.src k (by omega))
      exact (((hk'.setOther (a := ⟨P, i, none⟩) (by simp; omega) _).setOther (a := ⟨P + 1, i, none⟩) (by simp; omega) _).setOther (a := ⟨P + 1 + 1, i, none⟩) (by simp; omega) _).alloc _
structure L3 (W6 wr : World) (Q n m j : Nat) (sb R : Nat → Nat) : Prop where
  bel : Below Q W6 wr
  size : wr.heap.size = Q + 2
  named : ∃ c, Blk wr Q c 4 ∧ c.size = n ∧ Upto c n (fun k => .bool (refd R j k))
  turns : ∃ c, Blk wr (Q + 1) c 66 ∧ c.size = m ∧ Upto c j (fun k => .pointer (some ⟨sb (R k), 0, none⟩))
theorem L3.start (W6 : World) (n m : Nat) (sb R : Nat → Nat) : L3 W6 ((W6.alloc (.cells (madeCells #[.bool false] n) 4)).alloc (.cells (madeCells #[.pointer none] m) 66)) W6.heap.size n m 0 sb R := by
  refine ⟨((Below.refl _ _).alloc (Nat.le_refl _) _).alloc (by simp) _, by simp, ⟨madeCells #[.bool false] n, (Blk.new W6 _ 4).alloc _, size_madeCells _ _, fun j hj => ?_⟩, ⟨madeCells #[.pointer none] m, ?_, size_madeCells _ _, Upto.zero _ _⟩⟩
  · simp [madeCells, hj, Nat.mod_one, refd]
  · have := Blk.new (W6.alloc (.cells (madeCells #[.bool false] n) 4)) (madeCells #[.pointer none] m) 66
    simpa using this
theorem L3.step {W6 wr : World} {Q n m j : Nat} {sb R : Nat → Nat} (h : L3 W6 wr Q n m j sb R) (hj : j < m) (hR : R j < n) : L3 W6 ((wr.setCell ⟨Q + 1, j, none⟩ (.pointer (some ⟨sb (R j), 0, none⟩))).setCell ⟨Q, R j, none⟩ (.bool true)) Q n m (j + 1) sb R := by
  obtain ⟨c1, h1, h1s, h1u⟩ := h.named
  obtain ⟨c2, h2, h2s, h2u⟩ := h.turns
  refine ⟨(h.bel.setCell (by simp) _).setCell (Nat.le_refl _) _, by simpa [World.setCell] using h.size, ⟨_, (h1.setOther (a := ⟨Q + 1, j, none⟩) (by simp) _).set (R j) _, by simpa using h1s, fun k hk => ?_⟩, ⟨_, (h2.set j _).setOther (a := ⟨Q, R j, none⟩) (by simp) _, by simpa using h2s, h2u.step (by omega) rfl⟩⟩
  show _ = some (Value.bool (if R j = k then true else refd R j k))
  rw [Array.getElem?_setIfInBounds]
  by_cases e : R j = k
  · rw [if_pos e, if_pos (by omega), if_pos e]
  · rw [if_neg e, if_neg e]
    exact h1u k hk
theorem rem_of (r n : Nat) (hn : 1 ≤ n) (h2 : n ≤ 2000000) (hr : r ≤ 255) : ((r : Int).tmod (n : Int)) = ((r % n : Nat) : Int) ∧ r % n < n := by
  refine ⟨?_, Nat.mod_lt _ hn⟩
  rw [Int.tmod_eq_emod_of_nonneg (by omega)]
  simp
/-- All that lies in memory before the turns are taken; and behind them. -/
structure Fin (w W : World) (B P Q n m : Nat) (I Wt Wf : Nat → Bool) (G T R : Nat → Nat) (a3 aD aK : Option Addr) (nz cD : Nat) (Z : Nat → Int) : Prop where
  bel : Below w.heap.size w W
  pool : Row W P 66 n (fun k => .pointer (some ⟨P + 4 + 2 * k, 0, none⟩))
  idle : Row W (P + 1) 4 n (fun k => .bool (I k))
  waits : Row W (P + 1 + 1) 4 n (fun k => .bool (Wt k))
  named : Row W Q 4 n (fun k => .bool (refd R m k))
  src : ∀ k, k < n → Blk W (P + 4 + 2 * k) (srcCells (I k) (G k) (T k) (Wf k) ((k : Int) + 1)) 74
  sim : SimAt W (B + 1 + 1) (B + 1) aD nz cD Z
  i3 : Ints W a3 nz Z
  iK : Ints W aK nz Z
theorem Ints.drewN {w : World} {ao : Option Addr} {n : Nat} {Z : Nat → Int} (h : Ints w ao n Z) (m : Nat) : Ints (w.drewN m) ao n Z := by
  induction m with
  | zero => exact h
  | succ m ih => exact ih
theorem Fin.drewN {w W : World} {B P Q n m : Nat} {I Wt Wf : Nat → Bool} {G T R : Nat → Nat} {a3 aD aK : Option Addr} {nz cD : Nat} {Z : Nat → Int} (h : Fin w W B P Q n m I Wt Wf G T R a3 aD aK nz cD Z) (q : Nat) : Fin w (W.drewN q) B P Q n m I Wt Wf G T R a3 aD aK nz cD Z :=
  ⟨belowN h.bel q, h.pool.drewN q, h.idle.drewN q, h.waits.drewN q, h.named.drewN q, fun k hk => (h.src k hk).drewN q, h.sim.drewN q, h.i3.drewN q, h.iK.drewN q⟩
theorem SimAt.below {Bb : Nat} {w w' : World} {bS bP : Nat} {ao : Option Addr} {n c : Nat} {Z : Nat → Int} (h : SimAt w bS bP ao n c Z) (hb : Below Bb w w') (hB : w.heap.size ≤ Bb := by exact Nat.le_refl _) : SimAt w' bS bP ao n c Z :=
  ⟨(hb.cell (p := ⟨bS, 10, none⟩) (Nat.lt_of_lt_of_le (cell_lt h.peers) hB)).trans h.peers, fun k hk => (hb.cell (p := ⟨bP, k * 12 + 11, none⟩) (Nat.lt_of_lt_of_le (cell_lt (h.decl k hk)) hB)).trans (h.decl k hk), h.ints.below hb hB⟩
theorem Fin.below {w W W' : World} {B P Q n m : Nat} {I Wt Wf : Nat → Bool} {G T R : Nat → Nat} {a3 aD aK : Option Addr} {nz cD : Nat} {Z : Nat → Int} (h : Fin w W B P Q n m I Wt Wf G T R a3 aD aK nz cD Z) (hb : Below W.heap.size W W') : Fin w W' B P Q n m I Wt Wf G T R a3 aD aK nz cD Z :=
  ⟨h.bel.trans (hb.mono h.bel.size), h.pool.below hb h.pool.lt, h.idle.below hb h.idle.lt, h.waits.below hb h.waits.lt, h.named.below hb h.named.lt, fun k hk => (h.src k hk).below hb (h.src k hk).lt, h.sim.below hb, h.i3.below hb, h.iK.below hb⟩
theorem ints_only {ok : Nat → Prop} {w w' : World} {ao : Option Addr} {n : Nat} {Z : Nat → Int} (h : Ints w ao n Z) (ho : Only ok w w') (h3 : ∀ b o, 0 < n → ao = some ⟨b, o, none⟩ → ¬ ok b) : Ints w' ao n Z := by
  intro hn
  obtain ⟨b, o, e1, e2, e3⟩ := h hn
  exact ⟨b, o, e1, Nat.lt_of_lt_of_le e2 ho.size, fun j hj => ho.cell (e3 j hj) (h3 b o hn e1)⟩
theorem only_below {ok : Nat → Prop} {w w' : World} {L : Nat} (ho : Only ok w w') (hL : L ≤ w.heap.size) (h : ∀ b, b < L → ¬ ok b) : Below L w w' :=
  ⟨ho.os, ho.tape, ho.output, ho.size, fun k hk => ho.block k (by omega) (h k hk)⟩
/-- Behind the turns. -/
theorem Fin.turned {w W W' : World} {B P Q n m bp bt : Nat} {I Wt : Nat → Bool} {G T R : Nat → Nat} {a3 aD aK : Option Addr} {nz cD : Nat} {Z : Nat → Int} {tu : Value} (h : Fin w W B P Q n m I Wt Wt G T R a3 aD aK nz cD Z)
    (hT : Tn W W' bp bt m n (fun k => P + 4 + 2 * k) R I G T Wt m tu) (hB : B + 3 = P) (hw : w.heap.size ≤ B) (hQ : Q = P + 3 + 2 * n) (hbt : bt = Q + 1) (hbp : Q + 2 ≤ bp) (h3 : ∀ b o, 0 < nz → (a3 = some ⟨b, o, none⟩ ∨ aD = some ⟨b, o, none⟩ ∨ aK = some ⟨b, o, none⟩) → b < B) :
    Fin w W' B P Q n m I Wt (wtAt R Wt m) G T R a3 aD aK nz cD Z := by
  have no : ∀ b, b < P + 3 ∨ b = Q → ¬ okT bp bt n (fun k => P + 4 + 2 * k) b := by
    rintro b hb (h | h | ⟨k, hk, h⟩)
    · omega
    · omega
    · simp only at h; omega
  refine ⟨h.bel.trans (only_below hT.only h.bel.size fun b hb => no b (by omega)), hT.only.row h.pool (no _ (by omega)), hT.only.row h.idle (no _ (by omega)), hT.only.row h.waits (no _ (by omega)), hT.only.row h.named (no _ (by omega)), hT.src, h.sim.only hT.only (no _ (by omega)) (no _ (by omega)) (fun b o hn e => no _ (by have := h3 b o hn (Or.inr (Or.inl e)); omega)),
    ints_only h.i3 hT.only (fun b o hn e => no _ (by have := h3 b o hn (Or.inl e); omega)), ints_only h.iK hT.only (fun b o hn e => no _ (by have := h3 b o hn (Or.inr (Or.inr e)); omega))⟩
theorem ex77 : ∃ j, Ybaz.prog.info? 77 = some j := by
  cases h : Ybaz.prog.info? 77 with
  | none => have : (Ybaz.prog.info? 77).isSome = true := by kernel_rfl
            rw [h] at this; simp at this
  | some j => exact ⟨j, rfl⟩
theorem ex74 : ∃ j, Ybaz.prog.info? 74 = some j := by
  cases h : Ybaz.prog.info? 74 with
  | none => have : (Ybaz.prog.info? 74).isSome = true := by kernel_rfl
            rw [h] at this; simp at this
  | some j => exact ⟨j, rfl⟩
set_option maxRecDepth 100000 in
set_option maxHeartbeats 20000000 in
theorem whole_walk (sending : Bool) (a1 : Option Addr) (n1 c1 : Nat) (I Wt : Nat → Bool) (g8 t8 : Nat → Nat) (a2 : Option Addr) (m c2 : Nat) (r8 : Nat → Nat) (a3 : Option Addr) (nz c3 : Nat) (Z : Nat → Int) (w : World)
    (q1 : Srcs w a1 n1 I Wt g8 t8) (q2 : Refs w a2 m r8) (q3 : Ints w a3 nz Z) (s1 : n1 ≤ 140737488351232) (s2 : m ≤ 140737488351232) (s3 : nz ≤ 140737488351232) (b8 : ∀ j, g8 j ≤ 255 ∧ t8 j ≤ 255) (bz : ∀ j, n1 ≤ j → I j = false ∧ g8 j = 0 ∧ t8 j = 0 ∧ Wt j = false) (br : ∀ j, r8 j ≤ 255) :
    Calls Ybaz.prog 3 #[.bool sending, .slice a1 n1 c1, .slice a2 m c2, .slice a3 nz c3] w fun e w' => e = .returned (.bool true) ∧ Below w.heap.size w w' := by
  have Q : Hid (Srcs w a1 n1 I Wt g8 t8 ∧ Refs w a2 m r8 ∧ Ints w a3 nz Z) := ⟨q1, q2, q3⟩
  have B8 : Hid (∀ j, g8 j ≤ 255 ∧ t8 j ≤ 255) := b8
  have BR : Hid (∀ j, r8 j ≤ 255) := br
  have BZ : Hid (∀ j, n1 ≤ j → I j = false ∧ g8 j = 0 ∧ t8 j = 0 ∧ Wt j = false) := bz
  clear q1 q2 q3 b8 br bz
  go_enter Ybaz.func3, Ybaz.ntmps3
  by_cases hbig : n1 + m + nz ≤ 1048576
  rotate_left
  · go_wp2_with fail
    go_ret
    exact ⟨rfl, Below.refl _ _⟩
  · go_wp2_with fail
    refine (clone a3 nz c3 Z w Q.out.2.2 (by omega)).mono ?_
    rintro e w1 ⟨aD, cD, rfl, iD1, bel1⟩
    go_wp2_with fail
    refine (clone a3 nz c3 Z w1 (Q.out.2.2.below bel1) (by omega)).mono ?_
    rintro e W2 ⟨aK, cK, rfl, iK2, bel2⟩
    have HC : Hid (Came w W2 a1 n1 I Wt g8 t8 a2 m r8 a3 aD aK nz Z) := ⟨bel1.trans (bel2.mono bel1.size), (Q.out.1.below bel1).below bel2, (Q.out.2.1.below bel1).below bel2, (Q.out.2.2.below bel1).below bel2, iD1.below bel2, iK2⟩
    clear iD1 bel1 iK2 bel2 Q
    have hb32 := build32
    have hmk := make_peers
    go_wp2_with fail
    clear hb32 hmk
    go_loopg [57] 4 (fun g x wr => ∃ k : Nat, g = 4 - k ∧ k ≤ 4 ∧ x = .int .i64 k ∧ L1 W2 wr W2.heap.size k (.slice aD nz cD))
    case atStart => exact ⟨0, rfl, Nat.zero_le _, rfl, L1.start _ _ _ _ rfl⟩
    case round =>
      obtain ⟨k, hg, hk, rfl, hL⟩ := hrel
      have HG : Hid (gk = 4 - k) := hg
      clear hg
      by_cases hlt : k < 4
      ·
        as_aux_lemma =>
          obtain ⟨c, hc, hcs, _⟩ := hL.peers
          obtain ⟨⟨v0, hc0⟩, hf0⟩ := hc.at (i := k * 12 + 11) (by omega)
          have s10 := hL.sim.cell (i := 10) (v := .slice (some ⟨W2.heap.size + 1, 0, none⟩) 4 4) rfl
          have HL : Hid (L1 W2 wr W2.heap.size k (.slice aD nz cD)) := hL
          clear hL hc hcs
          have hlt' : (k : Int) < 4 := by omega
          have hlt'' : decide (k < 4) = true := by simpa using hlt
          go_wp2_with fail
          go_roundg (4 - (k + 1))
          case measure => have := HG.out; omega
          case rel => exact ⟨k + 1, rfl, by omega, by go_num, HL.out.step hlt⟩
      · obtain rfl : k = 4 := by omega
        obtain ⟨W4, hW4⟩ : ∃ W, W = wr := ⟨_, rfl⟩
        subst hW4
        obtain ⟨B, hB⟩ : ∃ B, B = W2.heap.size := ⟨_, rfl⟩
        rw [← hB] at hL
        have HC4 : Hid (Came w W4 a1 n1 I Wt g8 t8 a2 m r8 a3 aD aK nz Z) := HC.out.below (by rw [← hB]; exact hL.bel)
        have HS4 : Hid (SimAt W4 (B + 1 + 1) (B + 1) aD nz cD Z) := hL.simAt HC4.out.iD
        have hs4 : W4.heap.size = B + 3 := hL.size
        have hIb : Hid (∀ b o, 0 < nz → (a3 = some ⟨b, o, none⟩ ∨ aD = some ⟨b, o, none⟩ ∨ aK = some ⟨b, o, none⟩) → b < B) := fun b o hp e => by
          rcases e with e | e | e
          · obtain ⟨b', o', e1, e2, _⟩ := HC.out.i3 hp
            rw [e] at e1
            cases e1
            omega
          · obtain ⟨b', o', e1, e2, _⟩ := HC.out.iD hp
            rw [e] at e1
            cases e1
            omega
          · obtain ⟨b', o', e1, e2, _⟩ := HC.out.iK hp
            rw [e] at e1
            cases e1
            omega
        have HwB : Hid (w.heap.size ≤ B) := by have := HC.out.bel.size; exact (by omega : w.heap.size ≤ B)
        clear hL HG hk hlt HC
        rw [← hB]
        have HP : Hid (W4.heap.size = B + 3) := hs4
        clear hs4 hB
        as_aux_lemma =>
          go_upto_if 72 with fail
          go_cut [13] (fun v wx => v = .int .i64 (max n1 1 : Nat) ∧ W4 = wx)
          case first =>
            as_aux_lemma =>
              by_cases hl1 : n1 = 0
              · subst hl1
                go_wp2_with fail
                go_meet
                case rel => exact ⟨by simp, rfl⟩
              · have q : ((n1 : Int) == 0) = false := by simp; omega
                go_wp2_with fail
                go_meet
                case rel => exact ⟨by rw [show max n1 1 = n1 by omega], rfl⟩
          case rest =>
            obtain ⟨rfl, rfl⟩ := hcut
            obtain ⟨n, hn⟩ : ∃ n, n = max n1 1 := ⟨_, rfl⟩
            rw [← hn]
            have hn1 : 1 ≤ n := by omega
            have hn2 : n1 ≤ n := by omega
            have hn3 : n ≤ 1048577 := by omega
            clear hn
            have mk1 := make_ptrs n (by omega)
            have mk2 := make_bools n (by omega)
            go_wp2_with fail
            clear mk1 mk2
            go_loopg [17] n (fun g x wr => ∃ i : Nat, g = n - i ∧ i ≤ n ∧ x = .int .i64 i ∧ L2 W4 wr W4.heap.size n i I Wt (fun k => g8 k % 4) (fun k => t8 k % 4))
            case atStart => exact ⟨0, rfl, Nat.zero_le _, rfl, L2.start _ _ _ _ _ _⟩
            case round =>
              obtain ⟨i, hg, hi, rfl, hL⟩ := hrel
              have HG : Hid (gk = n - i) := hg
              clear hg
              have HL : Hid (L2 W4 wr W4.heap.size n i I Wt (fun k => g8 k % 4) (fun k => t8 k % 4)) := hL
              by_cases hlt : i < n
              ·
                as_aux_lemma =>
                  have hW4 : W4.heap.size ≤ wr.heap.size := hL.bel.size
                  have HC5 : Hid (Came w wr a1 n1 I Wt g8 t8 a2 m r8 a3 aD aK nz Z) := HC4.out.below hL.bel
                  clear hL
                  go_upto_if 87 with fail
                  go_cut [] (fun wx => Blk wx wr.heap.size #[.bool (I i), .int .u8 (g8 i), .int .u8 (t8 i), .bool (Wt i)] 65 ∧ Below wr.heap.size wr wx ∧ wx.heap.size = wr.heap.size + 1)
                  case first =>
                    as_aux_lemma =>
                      by_cases hin : i < n1
                      · obtain ⟨b, o, rfl, hb, hc⟩ := HC5.out.srcs (by omega)
                        obtain ⟨k0, k1, k2, k3⟩ := hc i hin
                        clear hc
                        have q1 : decide ((i : Int) < n1) = true := by simp; omega
                        have q1' : decide (i < n1) = true := by simp; omega
                        go_wp2_with fail
                        go_meet
                        case rel => exact ⟨Blk.new _ _ _, (Below.refl _ _).alloc (Nat.le_refl _) _, by simp⟩
                      · have q1 : decide ((i : Int) < n1) = false := by simp; omega
                        have q1' : decide (i < n1) = false := by simp; omega
                        go_wp2_with fail
                        go_meet
                        case rel =>
                          obtain ⟨z1, z2, z3, z4⟩ := BZ.out i (by omega)
                          rw [z1, z2, z3, z4]
                          exact ⟨Blk.new _ _ _, (Below.refl _ _).alloc (Nat.le_refl _) _, by simp⟩
                  case rest =>
                    as_aux_lemma =>
                      obtain ⟨W5, hW5⟩ : ∃ W, W = wc := ⟨_, rfl⟩
                      subst hW5
                      obtain ⟨hd, hbx, hsx⟩ := hcut
                      have d0 := hd.cell (i := 0) (v := .bool (I i)) rfl
                      have d1 := hd.cell (i := 1) (v := .int .u8 (g8 i)) rfl
                      have d2 := hd.cell (i := 2) (v := .int .u8 (t8 i)) rfl
                      have d3 := hd.cell (i := 3) (v := .bool (Wt i)) rfl
                      obtain ⟨c1, p1, p1s, _⟩ := HL.out.pool
                      obtain ⟨c2, p2, p2s, _⟩ := HL.out.idle
                      obtain ⟨c3, p3, p3s, _⟩ := HL.out.waits
                      obtain ⟨⟨x1, y1⟩, f1⟩ := (p1.below hbx p1.lt).at (i := i) (by omega)
                      obtain ⟨⟨x2, y2⟩, f2⟩ := (p2.below hbx p2.lt).at (i := i) (by omega)
                      obtain ⟨⟨x3, y3⟩, f3⟩ := (p3.below hbx p3.lt).at (i := i) (by omega)
                      have hl5 : W4.heap.size + 1 + 1 < W5.heap.size := (p3.below hbx p3.lt).lt
                      have hl4 : W4.heap.size + 1 < W5.heap.size := by omega
                      have hl3 : W4.heap.size < W5.heap.size := by omega
                      have hr3 : W4.heap.size + 1 + 1 < wr.heap.size := p3.lt
                      have e1 : W4.heap.size ≠ wr.heap.size := by omega
                      have e2 : W4.heap.size + 1 ≠ wr.heap.size := by omega
                      have e3 : W4.heap.size + 1 + 1 ≠ wr.heap.size := by omega
                      have e1' : wr.heap.size ≠ W4.heap.size := by omega
                      have e2' : wr.heap.size ≠ W4.heap.size + 1 := by omega
                      have e3' : wr.heap.size ≠ W4.heap.size + 1 + 1 := by omega
                      have HX : Hid (Below wr.heap.size wr W5 ∧ W5.heap.size = wr.heap.size + 1) := ⟨hbx, hsx⟩
                      have hsr : wr.heap.size < W5.heap.size := by omega
                      obtain ⟨hg8, ht8⟩ := B8.out i
                      clear hd hbx hsx p1 p2 p3 p1s p2s p3s HC5
                      go_wp2_with fail
                      go_roundg (n - (i + 1))
                      case measure => have := HG.out; omega
                      case rel => exact ⟨i + 1, rfl, by omega, by go_num, HL.out.step hlt HX.out.1 HX.out.2 (by simp [srcCells])⟩
              · obtain rfl : i = n := by omega
                obtain ⟨W6, hW6⟩ : ∃ W, W = wr := ⟨_, rfl⟩
                subst hW6
                as_aux_lemma =>
                  have HC6 : Hid (Came w W6 a1 n1 I Wt g8 t8 a2 m r8 a3 aD aK nz Z) := HC4.out.below hL.bel
                  have HS6 : Hid (SimAt W6 (B + 1 + 1) (B + 1) aD nz cD Z) := ⟨(hL.bel.cell (p := ⟨B + 1 + 1, 10, none⟩) (by have := HP.out; simp; omega)).trans HS4.out.peers, fun k hk => (hL.bel.cell (p := ⟨B + 1, k * 12 + 11, none⟩) (by have := HP.out; simp; omega)).trans (HS4.out.decl k hk), HC6.out.iD⟩
                  have HS6z : Hid (W6.heap.size = W4.heap.size + 3 + 2 * i) := hL.size
                  clear hL HC4 HS4 HG hi hlt hn2
                  have mk1 := make_ptrs m (by omega)
                  have mk2 := make_bools i (by omega)
                  go_wp2_with fail
                  clear mk1 mk2
                  go_loopg [129] m (fun g x wr => ∃ j : Nat, g = m - j ∧ j ≤ m ∧ x = .int .i64 j ∧ L3 W6 wr W6.heap.size i m j (fun k => W4.heap.size + 4 + 2 * k) (fun k => r8 k % i))
                  case atStart => exact ⟨0, rfl, Nat.zero_le _, rfl, L3.start _ _ _ _ _⟩
                  case round =>
                    obtain ⟨j, hg, hj, rfl, hL⟩ := hrel
                    have HG : Hid (gk = m - j) := hg
                    clear hg
                    have HL3 : Hid (L3 W6 wr W6.heap.size i m j (fun k => W4.heap.size + 4 + 2 * k) (fun k => r8 k % i)) := hL
                    by_cases hlt : j < m
                    ·
                      as_aux_lemma =>
                        obtain ⟨b, o, rfl, hb, hc⟩ := HC6.out.refs (by omega)
                        have kr : wr.cell? ⟨b, o + j, none⟩ = some (.int .u8 (r8 j)) := (hL.bel.cell (p := ⟨b, o + j, none⟩) hb).trans (hc j hlt)
                        obtain ⟨hrem, hrl⟩ := rem_of (r8 j) i hn1 (by omega) (BR.out j)
                        have hr8 := BR.out j
                        obtain ⟨c1, p1, p1s, p1u⟩ := HL.out.pool
                        have kp := (p1.below hL.bel p1.lt).cell (p1u (r8 j % i) hrl)
                        obtain ⟨c2, p2, p2s, _⟩ := hL.named
                        obtain ⟨c3, p3, p3s, _⟩ := hL.turns
                        obtain ⟨⟨x2, y2⟩, f2⟩ := p2.at (i := r8 j % i) (by omega)
                        obtain ⟨⟨x3, y3⟩, f3⟩ := p3.at (i := j) (by omega)
                        generalize hrj : r8 j % i = rj at *
                        have HRJ : Hid (r8 j % i = rj) := hrj
                        clear hrj hL hc p1 p1s p1u p2 p2s p3 p3s
                        go_wp2_with fail
                        go_roundg (m - (j + 1))
                        case measure => have := HG.out; omega
                        case rel =>
                          refine ⟨j + 1, rfl, by omega, by go_num, ?_⟩
                          have h := HL3.out.step hlt (by simpa only [HRJ.out] using hrl)
                          simpa only [HRJ.out] using h
                    · obtain rfl : j = m := by omega
                      obtain ⟨W7, hW7⟩ : ∃ W, W = wr := ⟨_, rfl⟩
                      subst hW7
                      obtain ⟨sz7, HQ7, HR7, HT7, HF7⟩ : Hid (W7.heap.size = W6.heap.size + 2) ∧ Hid (Refs W7 a2 j r8) ∧ Hid (∀ x, x < j → r8 x % i < i) ∧ Hid (Row W7 (W6.heap.size + 1) 66 j (fun x => .pointer (some ⟨W4.heap.size + 4 + 2 * (r8 x % i), 0, none⟩))) ∧ Hid (Fin w W7 B W4.heap.size W6.heap.size i j I Wt Wt (fun k => g8 k % 4) (fun k => t8 k % 4) (fun x => r8 x % i) a3 aD aK nz cD Z) := by
                        have hC7 := HC6.out.below hL.bel
                        obtain ⟨c1, p1, p1s, p1u⟩ := HL.out.pool
                        obtain ⟨c2, p2, p2s, p2u⟩ := HL.out.idle
                        obtain ⟨c3, p3, p3s, p3u⟩ := HL.out.waits
                        refine ⟨hL.size, hC7.refs, fun x _ => Nat.mod_lt _ hn1, hL.turns, ⟨hC7.bel, ⟨c1, p1.below hL.bel p1.lt, p1s, p1u⟩, ⟨c2, p2.below hL.bel p2.lt, p2s, p2u⟩, ⟨c3, p3.below hL.bel p3.lt, p3s, p3u⟩, hL.named, fun k hk => ?_, HS6.out.below hL.bel, hC7.i3, hC7.iK⟩⟩
                        have := HL.out.src k hk
                        exact this.below hL.bel this.lt
                      clear hL HC6 HL HS6 HL3 HG hj hlt
                      cases sending with
                      | false =>
                        as_aux_lemma =>
                          go_wp2_with fail
                          have hbel8 : Below W7.heap.size W7 (W7.alloc (.cells (peerCells (.pointer none) (.slice (some ⟨W6.heap.size + 1, 0, none⟩) j j)) 62)) := (Below.refl _ _).alloc (Nat.le_refl _) _
                          have hF8 := HF7.out.below hbel8
                          have no : ∀ b, b < W4.heap.size → ¬ okT W7.heap.size (W6.heap.size + 1) i (fun k => W4.heap.size + 4 + 2 * k) b := by
                            have := sz7.out
                            have := HS6z.out
                            rintro b hb (h | h | ⟨k, hk, h⟩)
                            · omega
                            · omega
                            · simp only at h; omega
                          refine (takeTurns (B + 1 + 1) (B + 1) W7.heap.size (W6.heap.size + 1) j i (fun k => W4.heap.size + 4 + 2 * k) (fun x => r8 x % i) I (fun k => g8 k % 4) (fun k => t8 k % 4) Wt aD nz cD Z _ hF8.sim (by omega) (Blk.new _ _ _) (HT7.out.below hbel8 HT7.out.lt) hF8.src HR7.out (fun k => ⟨Nat.mod_lt _ (by omega), Nat.mod_lt _ (by omega)⟩) (fun k k' h => by have h2 : W4.heap.size + 4 + 2 * k = W4.heap.size + 4 + 2 * k' := h; omega) (by omega) (no _ (by have := HP.out; omega)) (no _ (by have := HP.out; omega)) (fun b o h0 e => no _ (by have := HP.out; have := hIb.out b o h0 (Or.inr (Or.inl e)); omega))).mono ?_
                          rintro e W8 ⟨rfl, ax, hT⟩
                          have HF : Hid (Fin w W8 B W4.heap.size W6.heap.size i j I Wt (wtAt (fun x => r8 x % i) Wt j) (fun k => g8 k % 4) (fun k => t8 k % 4) (fun x => r8 x % i) a3 aD aK nz cD Z) := hF8.turned hT (by have := HP.out; omega) HwB.out HS6z.out rfl (by have := sz7.out; omega) hIb.out
                          have p7 := hT.peer.cell (i := 7) (v := .pointer none) rfl
                          have p8 := hT.peer.cell (i := 8) (v := .slice ax 0 0) rfl
                          have HN : Hid (∀ x, x < j → W8.cell? ⟨W6.heap.size + 1, x, none⟩ = some (.pointer none)) := fun x hx => by
                            have := hT.turns.cell hx
                            simpa [hx] using this
                          clear hT hF8 hbel8 no HF7 HT7 HR7
                          as_aux_lemma =>
                            go_wp2_with fail
                            clear p7 p8
                            go_loopg [176] j (fun g v wr => ∃ x : Nat, g = j - x ∧ x ≤ j ∧ v = .int .i64 x ∧ W8 = wr)
                            case atStart => exact ⟨0, rfl, Nat.zero_le _, rfl, rfl⟩
                            case round =>
                             obtain ⟨x, hg, hx, rfl, hwr⟩ := hrel
                             have HG : Hid (gk = j - x) := hg
                             clear hg
                             subst hwr
                             by_cases hlt : x < j
                             · have kn := HN.out x hlt
                               go_wp2_with fail
                               go_roundg (j - (x + 1))
                               case measure => have := HG.out; omega
                               case rel => exact ⟨x + 1, rfl, by omega, by go_num, rfl⟩
                             ·
                              clear HG hx HN
                              go_wp2_with fail
                              go_loopg [30] i (fun g v wr => ∃ k q : Nat, g = i - k ∧ k ≤ i ∧ v = .int .i64 k ∧ W8.drewN q = wr)
                              case atStart => exact ⟨0, 0, rfl, Nat.zero_le _, rfl, rfl⟩
                              case round =>
                                obtain ⟨k, q, hg, hk, rfl, hwr⟩ := hrel
                                have HG : Hid (gk = i - k) := hg
                                clear hg
                                subst hwr
                                by_cases hlt : k < i
                                ·
                                  as_aux_lemma =>
                                    have k0 := HF.out.pool.cell hlt
                                    have k1 := HF.out.idle.cell hlt
                                    have k2 := HF.out.waits.cell hlt
                                    have k3 := HF.out.named.cell hlt
                                    have k4 := (HF.out.src k hlt).cell (i := 4) (v := .bool (I k)) rfl
                                    have k5 := (HF.out.src k hlt).cell (i := 11) (v := .bool (wtAt (fun x => r8 x % i) Wt j k)) rfl
                                    rw [wtAt_refd] at k5
                                    generalize hr : refd (fun x => r8 x % i) j k = rf at k3 k5
                                    clear hr
                                    cases rf with
                                    | true =>
                                      have k6 : W8.cell? ⟨W4.heap.size + 4 + 2 * k, 11, none⟩ = some (.bool false) := k5
                                      clear k5
                                      go_wp2_with fail
                                      go_quiet (fail)
                                      go_wp2_with fail
                                      go_roundg (i - (k + 1))
                                      case measure => have := HG.out; omega
                                      case rel => exact ⟨k + 1, q + nq, rfl, by omega, by go_num, rfl⟩
                                    | false =>
                                      have k6 : W8.cell? ⟨W4.heap.size + 4 + 2 * k, 11, none⟩ = some (.bool (Wt k)) := k5
                                      clear k5
                                      go_wp2_with fail
                                      go_quiet (fail)
                                      go_wp2_with fail
                                      go_roundg (i - (k + 1))
                                      case measure => have := HG.out; omega
                                      case rel => exact ⟨k + 1, q + nq, rfl, by omega, by go_num, rfl⟩
                                ·
                                  as_aux_lemma =>
                                    obtain ⟨W9, hW9⟩ : ∃ W, W = W8.drewN q := ⟨_, rfl⟩
                                    have HF9 : Hid (Fin w W9 B W4.heap.size W6.heap.size i j I Wt (wtAt (fun x => r8 x % i) Wt j) (fun k => g8 k % 4) (fun k => t8 k % 4) (fun x => r8 x % i) a3 aD aK nz cD Z) := by rw [hW9]; exact HF.out.drewN q
                                    rw [← hW9]
                                    clear hW9 HF HG hk
                                    have s10 := HF9.out.sim.peers
                                    go_wp2_with fail
                                    go_loopg [257] 4 (fun g v wr => ∃ k q : Nat, g = 4 - k ∧ k ≤ 4 ∧ v = .int .i64 k ∧ W9.drewN q = wr)
                                    case atStart => exact ⟨0, 0, rfl, Nat.zero_le _, rfl, rfl⟩
                                    case round =>
                                      obtain ⟨x, q2, hg, hx, rfl, hwr⟩ := hrel
                                      have HG : Hid (gk = 4 - x) := hg
                                      clear hg
                                      subst hwr
                                      by_cases hx4 : x < 4
                                      · have kd := HF9.out.sim.decl x hx4
                                        have hx4' : (x : Int) < 4 := by omega
                                        go_wp2_with fail
                                        refine (equal_same aD aK nz cD cK Z (W9.drewN q2) (HF9.out.sim.ints.drewN q2) (HF9.out.iK.drewN q2) (by omega)).mono ?_
                                        rintro e wy ⟨rfl, m2, rfl⟩
                                        go_wp2_with fail
                                        go_roundg (4 - (x + 1))
                                        case measure => have := HG.out; omega
                                        case rel => exact ⟨x + 1, q2 + m2, rfl, by omega, by go_num, rfl⟩
                                      · have hx4' : ¬ (x : Int) < 4 := by omega
                                        go_wp2_with fail
                                        refine (equal_same a3 aK nz c3 cK Z (W9.drewN q2) (HF9.out.i3.drewN q2) (HF9.out.iK.drewN q2) (by omega)).mono ?_
                                        rintro e wy ⟨rfl, m2, rfl⟩
                                        go_wp2_with fail
                                        go_ret
                                        exact ⟨rfl, (HF9.out.drewN (q2 + m2)).bel⟩
                      | true =>
                        as_aux_lemma =>
                          go_wp2_with fail
                          have hbel8 : Below W7.heap.size W7 ((W7.alloc (.cells #[.pointer none, .int .i64 0, .int .i64 0, .pointer none, .int .i64 0, .float .f64 0, .bool false] 77)).alloc (.cells (peerCells (.pointer (some ⟨W7.heap.size, 0, none⟩)) (.slice (some ⟨W6.heap.size + 1, 0, none⟩) j j)) 62)) := ((Below.refl _ _).alloc (Nat.le_refl _) _).alloc (by simp) _
                          have hp : Blk ((W7.alloc (.cells #[.pointer none, .int .i64 0, .int .i64 0, .pointer none, .int .i64 0, .float .f64 0, .bool false] 77)).alloc (.cells (peerCells (.pointer (some ⟨W7.heap.size, 0, none⟩)) (.slice (some ⟨W6.heap.size + 1, 0, none⟩) j j)) 62)) (W7.heap.size + 1) (peerCells (.pointer (some ⟨W7.heap.size, 0, none⟩)) (.slice (some ⟨W6.heap.size + 1, 0, none⟩) j j)) 62 := by
                            have := Blk.new (W7.alloc (.cells #[.pointer none, .int .i64 0, .int .i64 0, .pointer none, .int .i64 0, .float .f64 0, .bool false] 77)) (peerCells (.pointer (some ⟨W7.heap.size, 0, none⟩)) (.slice (some ⟨W6.heap.size + 1, 0, none⟩) j j)) 62
                            simpa using this
                          refine (takeTurns_sending (B + 1 + 1) (W7.heap.size + 1) W7.heap.size _ _ hp).mono ?_
                          rintro e W8 ⟨rfl, hW8⟩
                          rw [← hW8] at hbel8 hp
                          clear hW8
                          have HF : Hid (Fin w W8 B W4.heap.size W6.heap.size i j I Wt Wt (fun k => g8 k % 4) (fun k => t8 k % 4) (fun x => r8 x % i) a3 aD aK nz cD Z) := HF7.out.below hbel8
                          have HN : Hid (Row W8 (W6.heap.size + 1) 66 j (fun x => .pointer (some ⟨W4.heap.size + 4 + 2 * (r8 x % i), 0, none⟩)) ∧ Refs W8 a2 j r8) := ⟨HT7.out.below hbel8 HT7.out.lt, HQ7.out.below hbel8⟩
                          have p7 := hp.cell (i := 7) (v := .pointer (some ⟨W7.heap.size, 0, none⟩)) rfl
                          have p8 := hp.cell (i := 8) (v := .slice (some ⟨W6.heap.size + 1, 0, none⟩) j j) rfl
                          clear hp hbel8 HF7 HT7 HR7 HQ7
                          obtain ⟨i77, hi77⟩ := ex77
                          have np := fun wz a => Lib.run_neq_ptr_same (P := Ybaz.prog) wz (tp := 60) a Ybaz.underlying60 hi77
                          as_aux_lemma =>
                            go_wp2_with fail
                            clear np p7
                            go_loopg [195] j (fun g v wr => ∃ x q : Nat, g = j - x ∧ x ≤ j ∧ v = .int .i64 x ∧ W8.drewN q = wr)
                            case atStart => exact ⟨0, 0, rfl, Nat.zero_le _, rfl, rfl⟩
                            case round =>
                             obtain ⟨x, q5, hg, hx, rfl, hwr⟩ := hrel
                             have HG : Hid (gk = j - x) := hg
                             clear hg
                             subst hwr
                             by_cases hlt : x < j
                             ·
                               as_aux_lemma =>
                                 obtain ⟨b, o, rfl, hb, hc⟩ := HN.out.2 (by omega)
                                 have kr := hc x hlt
                                 obtain ⟨hrem, hrl⟩ := rem_of (r8 x) i hn1 (by omega) (BR.out x)
                                 have hr8 := BR.out x
                                 have kp := HF.out.pool.cell hrl
                                 have kt := HN.out.1.cell hlt
                                 generalize r8 x % i = rj at *
                                 obtain ⟨i74, hi74⟩ := ex74
                                 have np := fun wz a => Lib.run_neq_ptr_same (P := Ybaz.prog) wz (tp := 66) a Ybaz.underlying66 hi74
                                 clear hc
                                 go_wp2_with fail
                                 go_quiet (fail)
                                 go_wp2_with fail
                                 go_roundg (j - (x + 1))
                                 case measure => have := HG.out; omega
                                 case rel => exact ⟨x + 1, q5 + nq, rfl, by omega, by go_num, rfl⟩
                             ·
                              clear HG hx HN p8
                              obtain ⟨W8o, hW8o⟩ : ∃ W, W = W8.drewN q5 := ⟨_, rfl⟩
                              have HF' : Hid (Fin w W8o B W4.heap.size W6.heap.size i j I Wt Wt (fun k => g8 k % 4) (fun k => t8 k % 4) (fun x => r8 x % i) a3 aD aK nz cD Z) := by rw [hW8o]; exact HF.out.drewN q5
                              rw [← hW8o]
                              clear hW8o HF
                              obtain ⟨W8, hW8⟩ : ∃ W, W = W8o := ⟨_, rfl⟩
                              subst hW8
                              have HF := HF'
                              clear HF'
                              go_wp2_with fail
                              go_loopg [30] i (fun g v wr => ∃ k q : Nat, g = i - k ∧ k ≤ i ∧ v = .int .i64 k ∧ W8.drewN q = wr)
                              case atStart => exact ⟨0, 0, rfl, Nat.zero_le _, rfl, rfl⟩
                              case round =>
                                obtain ⟨k, q, hg, hk, rfl, hwr⟩ := hrel
                                have HG : Hid (gk = i - k) := hg
                                clear hg
                                subst hwr
                                by_cases hlt : k < i
                                ·
                                  as_aux_lemma =>
                                    have k0 := HF.out.pool.cell hlt
                                    have k1 := HF.out.idle.cell hlt
                                    have k2 := HF.out.waits.cell hlt
                                    have k3 := HF.out.named.cell hlt
                                    have k4 := (HF.out.src k hlt).cell (i := 4) (v := .bool (I k)) rfl
                                    have k5 := (HF.out.src k hlt).cell (i := 11) (v := .bool (Wt k)) rfl
                                    clear k3
                                    go_wp2_with fail
                                    go_quiet (fail)
                                    go_wp2_with fail
                                    go_roundg (i - (k + 1))
                                    case measure => have := HG.out; omega
                                    case rel => exact ⟨k + 1, q + nq, rfl, by omega, by go_num, rfl⟩
                                ·
                                  as_aux_lemma =>
                                    obtain ⟨W9, hW9⟩ : ∃ W, W = W8.drewN q := ⟨_, rfl⟩
                                    have HF9 : Hid (Fin w W9 B W4.heap.size W6.heap.size i j I Wt Wt (fun k => g8 k % 4) (fun k => t8 k % 4) (fun x => r8 x % i) a3 aD aK nz cD Z) := by rw [hW9]; exact HF.out.drewN q
                                    rw [← hW9]
                                    clear hW9 HF HG hk
                                    have s10 := HF9.out.sim.peers
                                    go_wp2_with fail
                                    go_loopg [257] 4 (fun g v wr => ∃ k q : Nat, g = 4 - k ∧ k ≤ 4 ∧ v = .int .i64 k ∧ W9.drewN q = wr)
                                    case atStart => exact ⟨0, 0, rfl, Nat.zero_le _, rfl, rfl⟩
                                    case round =>
                                      obtain ⟨x, q2, hg, hx, rfl, hwr⟩ := hrel
                                      have HG : Hid (gk = 4 - x) := hg
                                      clear hg
                                      subst hwr
                                      by_cases hx4 : x < 4
                                      · have kd := HF9.out.sim.decl x hx4
                                        have hx4' : (x : Int) < 4 := by omega
                                        go_wp2_with fail
                                        refine (equal_same aD aK nz cD cK Z (W9.drewN q2) (HF9.out.sim.ints.drewN q2) (HF9.out.iK.drewN q2) (by omega)).mono ?_
                                        rintro e wy ⟨rfl, m2, rfl⟩
                                        go_wp2_with fail
                                        go_roundg (4 - (x + 1))
                                        case measure => have := HG.out; omega
                                        case rel => exact ⟨x + 1, q2 + m2, rfl, by omega, by go_num, rfl⟩
                                      · have hx4' : ¬ (x : Int) < 4 := by omega
                                        go_wp2_with fail
                                        refine (equal_same a3 aK nz c3 cK Z (W9.drewN q2) (HF9.out.i3.drewN q2) (HF9.out.iK.drewN q2) (by omega)).mono ?_
                                        rintro e wy ⟨rfl, m2, rfl⟩
                                        go_wp2_with fail
                                        go_ret
                                        exact ⟨rfl, (HF9.out.drewN (q2 + m2)).bel⟩
end Go.Proofs.YbulkdkoeGreatFmt
