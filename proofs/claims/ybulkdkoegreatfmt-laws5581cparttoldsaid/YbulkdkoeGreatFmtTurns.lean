/-
  LawS5581CPart: takeTurns over sources that find nothing to give.
-/
import Derived.Test.YbulkdkoeGreatFmtLook
namespace Go.Proofs.YbulkdkoeGreatFmt
open Go.ChangeShapes Go.WideShapes Go.ChangeAt Go.RowKit
set_option linter.unusedVariables false
/-- w' is w but for the blocks that ok lets go of, and for new ones. -/
structure Only (ok : Nat → Prop) (w w' : World) : Prop where
  os : w'.os = w.os
  tape : w'.tape = w.tape
  output : w'.output = w.output
  size : w.heap.size ≤ w'.heap.size
  block : ∀ k, k < w.heap.size → ¬ ok k → w'.heap[k]? = w.heap[k]?
theorem Only.refl (ok : Nat → Prop) (w : World) : Only ok w w := ⟨rfl, rfl, rfl, Nat.le_refl _, fun _ _ _ => rfl⟩
theorem Only.trans {ok : Nat → Prop} {a b c : World} (h : Only ok a b) (k : Only ok b c) : Only ok a c :=
  ⟨k.os.trans h.os, k.tape.trans h.tape, k.output.trans h.output, Nat.le_trans h.size k.size, fun i hi hn => (k.block i (Nat.lt_of_lt_of_le hi h.size) hn).trans (h.block i hi hn)⟩
theorem Only.weak {ok ok' : Nat → Prop} {a b : World} (h : Only ok a b) (hk : ∀ k, ok k → ok' k) : Only ok' a b := ⟨h.os, h.tape, h.output, h.size, fun i hi hn => h.block i hi (fun e => hn (hk i e))⟩
theorem Only.drew {ok : Nat → Prop} {a b : World} (h : Only ok a b) : Only ok a b.drew := ⟨h.os, h.tape, h.output, h.size, h.block⟩
theorem Only.drewN {ok : Nat → Prop} {a b : World} (h : Only ok a b) (n : Nat) : Only ok a (b.drewN n) := ⟨h.os, h.tape, h.output, h.size, h.block⟩
theorem Only.alloc {ok : Nat → Prop} {a b : World} (h : Only ok a b) (o : Obj) : Only ok a (b.alloc o) :=
  h.trans ⟨rfl, rfl, rfl, by simp, fun k hk _ => Below.heap_alloc _ _ _ hk⟩
theorem Only.setCell {ok : Nat → Prop} {a b : World} (h : Only ok a b) {p : Addr} (hp : ok p.block) (v : Value) : Only ok a (b.setCell p v) :=
  h.trans ⟨rfl, rfl, rfl, by simp [World.setCell], fun k _ hn => Below.heap_setCell _ _ _ _ (fun e => hn (e ▸ hp))⟩
theorem Only.blk {ok : Nat → Prop} {w w' : World} (h : Only ok w w') {b : Nat} {c : Array Value} {t : TypeId} (hb : Blk w b c t) (hn : ¬ ok b) : Blk w' b c t := by
  have := h.block b hb.lt hn
  unfold Blk at hb ⊢
  rw [this]; exact hb
theorem Only.row {ok : Nat → Prop} {w w' : World} (h : Only ok w w') {b : Nat} {t : TypeId} {n : Nat} {f : Nat → Value} (hb : Row w b t n f) (hn : ¬ ok b) : Row w' b t n f := by
  obtain ⟨c, h1, h2⟩ := hb
  exact ⟨c, h.blk h1 hn, h2⟩
theorem Only.cell {ok : Nat → Prop} {w w' : World} (h : Only ok w w') {b o : Nat} {v : Value} (hc : w.cell? ⟨b, o, none⟩ = some v) (hn : ¬ ok b) : w'.cell? ⟨b, o, none⟩ = some v :=
  (World.cell?_of_block (a := ⟨b, o, none⟩) (h.block b (cell_lt hc) hn)).trans hc
theorem only_grown {w w' : World} {g : Nat} (h : w.grownBy w' (some g)) : Only (fun k => k = g) w w' :=
  ⟨h.os, h.tape, h.output, h.size, fun k hk hn => h.block k hk (by simpa using hn)⟩
def srcCells (i : Bool) (g t : Nat) (wt : Bool) (r : Int) : Array Value := #[.int .i64 g, .int .i64 t, .int .i64 0, .int .u32 0, .bool i, .bool false, .int .i32 0, .int .i32 0, .slice none 0 0, .slice none 0 0, .int .u64 r, .bool wt, .pointer none, .pointer none, .slice none 0 0, .slice none 0 0]
def peerCells (snd tu : Value) : Array Value := #[.float .f64 0, .slice none 0 0, .slice none 0 0, .int .i64 0, .bool false, .slice none 0 0, .int .i64 0, snd, tu, .slice none 0 0, .slice none 0 0, .slice none 0 0]
theorem srcCells_set (i : Bool) (g t : Nat) (wt wt' : Bool) (r : Int) : (srcCells i g t wt r).setIfInBounds 11 (.bool wt') = srcCells i g t wt' r := rfl
theorem peerCells_set (snd tu tu' : Value) : (peerCells snd tu).setIfInBounds 8 tu' = peerCells snd tu' := rfl
theorem src_at {w : World} {b : Nat} {i : Bool} {g t : Nat} {wt : Bool} {r : Int} (h : Blk w b (srcCells i g t wt r) 74) (hg : g < 4) (ht : t < 4) : SrcAt w b i g t :=
  ⟨h.cell rfl, h.cell rfl, h.cell rfl, h.cell rfl, h.cell rfl, h.cell rfl, hg, ht⟩
/-- Which of the sources wait behind j turns. -/
def wtAt (R : Nat → Nat) (Wt : Nat → Bool) : Nat → Nat → Bool
  | 0, k => Wt k
  | j + 1, k => if R j = k then false else wtAt R Wt j k
/-- Which of the sources are named among the first j. -/
def refd (R : Nat → Nat) : Nat → Nat → Bool
  | 0, _ => false
  | j + 1, k => if R j = k then true else refd R j k
theorem wtAt_refd (R : Nat → Nat) (Wt : Nat → Bool) (k : Nat) : ∀ j, wtAt R Wt j k = if refd R j k then false else Wt k
  | 0 => rfl
  | j + 1 => by
    rw [wtAt, refd, wtAt_refd R Wt k j]
    by_cases h : R j = k <;> simp [h]
def okT (bp bt n : Nat) (sb : Nat → Nat) (b : Nat) : Prop := b = bp ∨ b = bt ∨ ∃ k, k < n ∧ b = sb k
/-- In the middle of the turns: j of m are taken. -/
structure Tn (w wr : World) (bp bt m n : Nat) (sb : Nat → Nat) (R : Nat → Nat) (I : Nat → Bool) (G T : Nat → Nat) (Wt : Nat → Bool) (j : Nat) (tu : Value) : Prop where
  only : Only (okT bp bt n sb) w wr
  peer : Blk wr bp (peerCells (.pointer none) tu) 62
  turns : Row wr bt 66 m (fun i => if i < j then .pointer none else .pointer (some ⟨sb (R i), 0, none⟩))
  src : ∀ k, k < n → Blk wr (sb k) (srcCells (I k) (G k) (T k) (wtAt R Wt j k) ((k : Int) + 1)) 74
theorem Tn.drewN {w wr : World} {bp bt m n : Nat} {sb R : Nat → Nat} {I : Nat → Bool} {G T : Nat → Nat} {Wt : Nat → Bool} {j : Nat} {tu : Value} (h : Tn w wr bp bt m n sb R I G T Wt j tu) (q : Nat) : Tn w (wr.drewN q) bp bt m n sb R I G T Wt j tu :=
  ⟨h.only.drewN q, h.peer.drewN q, h.turns.drewN q, fun k hk => (h.src k hk).drewN q⟩
theorem SimAt.only {ok : Nat → Prop} {w w' : World} {bS bP : Nat} {ao : Option Addr} {n c : Nat} {Z : Nat → Int} (h : SimAt w bS bP ao n c Z) (ho : Only ok w w') (h1 : ¬ ok bS) (h2 : ¬ ok bP) (h3 : ∀ b o, 0 < n → ao = some ⟨b, o, none⟩ → ¬ ok b) : SimAt w' bS bP ao n c Z := by
  refine ⟨ho.cell h.peers h1, fun k hk => ho.cell (h.decl k hk) h2, fun hn => ?_⟩
  obtain ⟨b, o, e1, e2, e3⟩ := h.ints hn
  exact ⟨b, o, e1, Nat.lt_of_lt_of_le e2 ho.size, fun j hj => ho.cell (e3 j hj) (h3 b o hn e1)⟩
/-- One turn. -/
theorem Tn.step {w wr : World} {bp bt m n : Nat} {sb R : Nat → Nat} {I : Nat → Bool} {G T : Nat → Nat} {Wt : Nat → Bool} {j : Nat} {tu tu' : Value} (h : Tn w wr bp bt m n sb R I G T Wt j tu) (hj : j < m) (hR : R j < n) (inj : ∀ k k', sb k = sb k' → k = k') :
    Tn w (((wr.setCell ⟨bt, j, none⟩ (.pointer none)).setCell ⟨bp, 8, none⟩ tu').setCell ⟨sb (R j), 11, none⟩ (.bool false)) bp bt m n sb R I G T Wt (j + 1) tu' := by
  obtain ⟨c, hc, hcs, hcu⟩ := h.turns
  have n1 : bp ≠ bt := h.peer.ne hc (by decide)
  have n2 : bp ≠ sb (R j) := h.peer.ne (h.src _ hR) (by decide)
  have n3 : bt ≠ sb (R j) := hc.ne (h.src _ hR) (by decide)
  refine ⟨((h.only.setCell (Or.inr (Or.inl rfl)) _).setCell (Or.inl rfl) _).setCell (Or.inr (Or.inr ⟨_, hR, rfl⟩)) _, ?_, ?_, fun k hk => ?_⟩
  · have := ((h.peer.setOther (a := ⟨bt, j, none⟩) n1 (.pointer none)).set 8 tu').setOther (a := ⟨sb (R j), 11, none⟩) n2 (.bool false)
    rwa [peerCells_set] at this
  · refine ⟨c.setIfInBounds j (.pointer none), ((hc.set j _).setOther (a := ⟨bp, 8, none⟩) (Ne.symm n1) _).setOther (a := ⟨sb (R j), 11, none⟩) n3 _, by simpa using hcs, fun i hi => ?_⟩
    rw [Array.getElem?_setIfInBounds]
    by_cases e : j = i
    · subst e
      rw [if_pos rfl, if_pos (by omega)]
      show _ = some (if j < j + 1 then Value.pointer none else _)
      rw [if_pos (by omega)]
    · rw [if_neg e, hcu i hi]
      show some (if i < j then Value.pointer none else _) = some (if i < j + 1 then Value.pointer none else _)
      by_cases hij : i < j
      · rw [if_pos hij, if_pos (by omega)]
      · rw [if_neg hij, if_neg (by omega)]
  · have m1 : sb k ≠ bt := Ne.symm (hc.ne (h.src _ hk) (by decide))
    have m2 : sb k ≠ bp := Ne.symm (h.peer.ne (h.src _ hk) (by decide))
    have hb := ((h.src k hk).setOther (a := ⟨bt, j, none⟩) m1 (.pointer none)).setOther (a := ⟨bp, 8, none⟩) m2 tu'
    by_cases e : R j = k
    · subst e
      have := hb.set 11 (.bool false)
      rw [srcCells_set] at this
      rw [wtAt, if_pos rfl]
      exact this
    · have := hb.setOther (a := ⟨sb (R j), 11, none⟩) (fun he => e (inj _ _ he.symm)) (.bool false)
      rw [wtAt, if_neg e]
      exact this
set_option maxRecDepth 100000 in
set_option maxHeartbeats 8000000 in
theorem takeTurns (bS bP bp bt m n : Nat) (sb R : Nat → Nat) (I : Nat → Bool) (G T : Nat → Nat) (Wt : Nat → Bool) (ao : Option Addr) (nz c : Nat) (Z : Nat → Int) (w : World) (hS : SimAt w bS bP ao nz c Z) (hz : nz ≤ 2000000)
    (hp : Blk w bp (peerCells (.pointer none) (.slice (some ⟨bt, 0, none⟩) m m)) 62) (ht : Row w bt 66 m (fun i => .pointer (some ⟨sb (R i), 0, none⟩))) (hs : ∀ k, k < n → Blk w (sb k) (srcCells (I k) (G k) (T k) (Wt k) ((k : Int) + 1)) 74)
    (hR : ∀ i, i < m → R i < n) (hG : ∀ k, G k < 4 ∧ T k < 4) (inj : ∀ k k', sb k = sb k' → k = k') (hm : m ≤ 2000000)
    (o1 : ¬ okT bp bt n sb bS) (o2 : ¬ okT bp bt n sb bP) (o3 : ∀ b o, 0 < nz → ao = some ⟨b, o, none⟩ → ¬ okT bp bt n sb b) :
    Calls Ybaz.prog 5 #[.pointer (some ⟨bS, 0, none⟩), .pointer (some ⟨bp, 0, none⟩)] w fun e w' => e = .returned (.tuple #[]) ∧ ∃ ax, Tn w w' bp bt m n sb R I G T Wt m (.slice ax 0 0) := by
  have H0 : Hid (SimAt w bS bP ao nz c Z ∧ Tn w w bp bt m n sb R I G T Wt 0 (.slice (some ⟨bt, 0, none⟩) m m)) := ⟨hS, Only.refl _ _, hp, by simpa using ht, hs⟩
  have HR : Hid (∀ i, i < m → R i < n) := hR
  have HG : Hid (∀ k, G k < 4 ∧ T k < 4) := hG
  have HJ : Hid (∀ k k', sb k = sb k' → k = k') := inj
  have HO : Hid (¬ okT bp bt n sb bS ∧ ¬ okT bp bt n sb bP ∧ ∀ b o, 0 < nz → ao = some ⟨b, o, none⟩ → ¬ okT bp bt n sb b) := ⟨o1, o2, o3⟩
  clear hS hp ht hs hR hG inj o1 o2 o3
  go_enter Ybaz.func5, Ybaz.ntmps5
  go_wp2_with fail
  go_loopg [4] m (fun g v wr => ∃ j q ax, g = q ∧ j + q = m ∧ Tn w wr bp bt m n sb R I G T Wt j (.slice ax q q) ∧ (0 < q → ax = some ⟨bt, j, none⟩))
  case atStart => exact ⟨0, m, _, rfl, by omega, H0.out.2, fun _ => rfl⟩
  case round =>
    obtain ⟨j, q, ax, hg, hjq, hT, hax⟩ := hrel
    have HT : Hid (Tn w wr bp bt m n sb R I G T Wt j (.slice ax q q)) := hT
    have p7 := hT.peer.cell (i := 7) (v := .pointer none) rfl
    have p8 := hT.peer.cell (i := 8) (v := .slice ax q q) rfl
    have f8 := hT.peer.frozen 8
    rcases Nat.eq_zero_or_pos q with h0 | hq
    · subst h0
      clear hT hax
      go_wp2_with fail
      go_end0
      obtain rfl : m = j := by omega
      exact ⟨rfl, ax, HT.out⟩
    · have := hax hq
      subst this
      have tj : wr.cell? ⟨bt, j, none⟩ = some (.pointer (some ⟨sb (R j), 0, none⟩)) := by
        have := hT.turns.cell (j := j) (by omega)
        simpa using this
      obtain ⟨ct, hct, _⟩ := hT.turns
      have ftj := hct.frozen j
      have s11 := (hT.src (R j) (HR.out j (by omega))).cell (i := 11) rfl
      have f11 := (hT.src (R j) (HR.out j (by omega))).frozen 11
      have n1 : bp ≠ bt := hT.peer.ne hct (by decide)
      have n2 : bp ≠ sb (R j) := hT.peer.ne (hT.src _ (HR.out j (by omega))) (by decide)
      have n3 : bt ≠ sb (R j) := hct.ne (hT.src _ (HR.out j (by omega))) (by decide)
      clear hT hax hct
      go_wp2_with fail
      · have hT1 := HT.out.step (tu' := .slice (some ⟨bt, j, none⟩) 0 0) (by omega) (HR.out j (by omega)) HJ.out
        generalize ((wr.setCell ⟨bt, j, none⟩ (.pointer none)).setCell ⟨bp, 8, none⟩ (.slice (some ⟨bt, j, none⟩) 0 0)).setCell ⟨sb (R j), 11, none⟩ (.bool false) = W1 at hT1 ⊢
        refine (look bS bP (sb (R j)) ao nz c Z (I (R j)) (G (R j)) (T (R j)) W1 (H0.out.1.only hT1.only HO.out.1 HO.out.2.1 HO.out.2.2) (src_at (hT1.src (R j) (HR.out j (by omega))) (HG.out _).1 (HG.out _).2) hz).mono ?_
        rintro e w2 ⟨⟨v, rfl⟩, m2, rfl⟩
        have HT1 : Hid _ := hT1
        clear hT1
        go_wp2_with fail
        go_roundg (0)
        case measure => omega
        case rel => exact ⟨j + 1, 0, _, rfl, by omega, HT1.out.drewN m2, fun h => by omega⟩
      · have hT1 := HT.out.step (tu' := .slice (some ⟨bt, j + 1, none⟩) (q - 1) (q - 1)) (by omega) (HR.out j (by omega)) HJ.out
        generalize ((wr.setCell ⟨bt, j, none⟩ (.pointer none)).setCell ⟨bp, 8, none⟩ (.slice (some ⟨bt, j + 1, none⟩) (q - 1) (q - 1))).setCell ⟨sb (R j), 11, none⟩ (.bool false) = W1 at hT1 ⊢
        refine (look bS bP (sb (R j)) ao nz c Z (I (R j)) (G (R j)) (T (R j)) W1 (H0.out.1.only hT1.only HO.out.1 HO.out.2.1 HO.out.2.2) (src_at (hT1.src (R j) (HR.out j (by omega))) (HG.out _).1 (HG.out _).2) hz).mono ?_
        rintro e w2 ⟨⟨v, rfl⟩, m2, rfl⟩
        have HT1 : Hid _ := hT1
        clear hT1
        go_wp2_with fail
        go_roundg (q - 1)
        case measure => omega
        case rel => exact ⟨j + 1, q - 1, _, rfl, by omega, HT1.out.drewN m2, fun h => rfl⟩
set_option maxRecDepth 100000 in
set_option maxHeartbeats 8000000 in
theorem takeTurns_sending (bS bp bx : Nat) (tu : Value) (w : World) (hp : Blk w bp (peerCells (.pointer (some ⟨bx, 0, none⟩)) tu) 62) :
    Calls Ybaz.prog 5 #[.pointer (some ⟨bS, 0, none⟩), .pointer (some ⟨bp, 0, none⟩)] w fun e w' => e = .returned (.tuple #[]) ∧ w' = w := by
  have p7 := hp.cell (i := 7) (v := .pointer (some ⟨bx, 0, none⟩)) rfl
  clear hp
  go_enter Ybaz.func5, Ybaz.ntmps5
  go_wp2_with fail
  go_loopg [4] 0 (fun g v wr => w = wr)
  case atStart => rfl
  case round =>
    subst hrel
    go_wp2_with fail
    go_end0
    exact ⟨rfl, rfl⟩
set_option maxRecDepth 100000 in
set_option maxHeartbeats 8000000 in
/-- slices.Equal at []int, of two slices of the same integers. -/
theorem equal_same (a1 a2 : Option Addr) (n c1 c2 : Nat) (Z : Nat → Int) (w : World) (h1 : Ints w a1 n Z) (h2 : Ints w a2 n Z) (hn : n ≤ 2000000) :
    Calls Ybaz.prog 6 #[.slice a1 n c1, .slice a2 n c2] w fun e w' => e = .returned (.bool true) ∧ ∃ m, w' = w.drewN m := by
  have H1 : Hid (Ints w a1 n Z) := h1
  have H2 : Hid (Ints w a2 n Z) := h2
  clear h1 h2
  go_enter Ybaz.func6, Ybaz.ntmps6
  go_wp2_with fail
  go_loopg [13] n (fun g v wr => ∃ j m : Nat, g = n - j ∧ j ≤ n ∧ v = .int .i64 j ∧ w.drewN m = wr)
  case atStart => exact ⟨0, 0, rfl, Nat.zero_le _, rfl, rfl⟩
  case round =>
    obtain ⟨j, m, hg, hj, rfl, hwr⟩ := hrel
    subst hwr
    by_cases hlt : j < n
    · obtain ⟨b1, o1, rfl, _, k1⟩ := H1.out (by omega)
      obtain ⟨b2, o2, rfl, _, k2⟩ := H2.out (by omega)
      have e1 := k1 j hlt
      have e2 := k2 j hlt
      clear k1 k2
      go_wp2_with fail
      go_quiet (fail)
      go_wp2_with fail
      go_roundg (n - (j + 1))
      case measure => omega
      case rel => exact ⟨j + 1, m + nq, rfl, by omega, by simp, rfl⟩
    · go_wp2_with fail
      go_ret
      exact ⟨rfl, m, rfl⟩
theorem info3 : (Ybaz.prog.info? 3).map (fun i => (i.zero, i.size, i.bytes)) = some (some (.int .i64 0), 1, 8) := by kernel_rfl
set_option maxRecDepth 100000 in
set_option maxHeartbeats 8000000 in
/-- slices.Clone at []int. -/
theorem clone (ao : Option Addr) (n c : Nat) (Z : Nat → Int) (w : World) (hI : Ints w ao n Z) (hn : n ≤ 2000000) :
    Calls Ybaz.prog 4 #[.slice ao n c] w fun e w' => ∃ ao' c', e = .returned (.slice ao' n c') ∧ Ints w' ao' n Z ∧ Below w.heap.size w w' := by
  obtain ⟨i0, hi, hz0, hz1, hz2⟩ := info_parts info3
  have HI : Hid (Ints w ao n Z) := hI
  clear hI
  have q24 : ∀ (w : World) (a : Option Addr) (n c n' c' : Nat), (binOp .eql 24 (.slice a n c) (.slice none n' c')).run Ybaz.prog w = .ok (.bool a.isNone) w := fun w a n c n' c' => Lib.run_eql_slice_nil w _ _ a n c n' c' Ybaz.underlying24
  cases ao with
  | none =>
    have hn0 : n = 0 := by
      rcases Nat.eq_zero_or_pos n with h | h
      · exact h
      · obtain ⟨b, o, h1, _⟩ := HI.out h
        cases h1
    subst hn0
    go_enter Ybaz.func4, Ybaz.ntmps4
    go_wp2_with fail
    go_ret
    exact ⟨none, 0, rfl, fun h => absurd h (by omega), Below.refl _ _⟩
  | some a =>
    go_enter Ybaz.func4, Ybaz.ntmps4
    go_wp2_with (at_builtin; go_loud (refine wpList_append_own _ rfl _ _ 24 rfl w.heap.size 3 i0 (.int .i64 0) 1 8 Ybaz.underlying24 hi hz0 hz1 hz2 rfl (by decide) _ _ _ rfl (World.ownsRow_made w #[] 0 (Nat.le_refl _) (Nat.zero_le _) rfl) a n c ((List.range n).map fun j => Value.int .i64 (Z j)) rfl ?qc1 ?qc2 ?qc3 ?qc4 ?qc5 ?qc6 ?_))
    case qc1 => simp
    case qc2 =>
      intro j u hj
      have hjn : j < n := by
        have := (List.getElem?_eq_some_iff.1 hj).1
        simpa using this
      obtain ⟨b, o, e1, e2, e3⟩ := HI.out (by omega)
      cases e1
      simp only [List.getElem?_map, List.getElem?_range hjn, Option.map_some, Option.some.injEq] at hj
      subst hj
      rw [Addr.add_lit]
      exact Lib.cell?_alloc_some _ (e3 j hjn)
    case qc3 => intro u hu; obtain ⟨x, _, rfl⟩ := List.mem_map.1 hu; rfl
    case qc4 => unfold maxLen; omega
    case qc5 => omega
    case qc6 => simp
    intro v' w1 hown hgrow hnil
    have hbel : Below w.heap.size w w1 := ((Below.refl _ w).alloc (Nat.le_refl _) _).grown hgrow (by simp) (by intro k hk; simp [Value.ownBlock] at hk; omega)
    clear hgrow hnil
    obtain ⟨ao', c', rfl⟩ := owns_shape hown
    have HO : Hid (w1.ownsRow w.heap.size 3 1 (.slice ao' n c') n ((List.range n).map fun j => Value.int .i64 (Z j))) := hown
    clear hown
    go_wp2_with fail
    go_ret
    refine ⟨ao', c', rfl, fun h0 => ?_, hbel⟩
    rcases HO.out.2 with ⟨h1, h2⟩ | ⟨g, cap, cur, h1, h2, h3, h4, h5, h6, h7⟩
    · simp at h1; omega
    · cases h1
      refine ⟨g, 0, rfl, (show Blk w1 g cur 3 from h3).lt, fun j hj => ?_⟩
      have := HO.out.cellAt j (by simpa using hj)
      simpa [List.getElem?_range hj] using this
end Go.Proofs.YbulkdkoeGreatFmt
