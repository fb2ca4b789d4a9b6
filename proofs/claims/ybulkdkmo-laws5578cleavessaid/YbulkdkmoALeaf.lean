/-
  LawS5578AWhole: the words for what zzs5578abuild leaves in memory; its walk where it makes a leaf.
-/
import Derived.Test.YbulkdkmoProg
import Derived.Test.YbulkdkmoKit
import Derived.WalkKit
import Derived.ProofKit
import Derived.Below
import Derived.Outline
import Derived.RegionTactic
import Derived.ChangeAlike
import Derived.Deep.Draws
import Derived.WalkSpells
import Derived.Deep.LoopGhost
import Derived.Deep.QuietTactic
import Derived.BigQuiet
import Derived.OneCell
namespace Go.Proofs.Ybulkdkmo
open Go.ChangeShapes Go.WideShapes Go.ChangeAt Go.RowKit
theorem Yba.info24 : (Yba.prog.info? 24).map (fun i => (i.zero, i.size, i.bytes)) = some (some (.pointer none), 1, 8) := by kernel_rfl
abbrev ptrV (b : Nat) : Value := .pointer (some ⟨b, 0, none⟩)
theorem news_one {w : World} {g : Nat} {x : Value} (h : w.cell? ⟨g, 0, none⟩ = some x) : ∀ j u, [x][j]? = some u → w.cell? ((⟨g, 0, none⟩ : Addr).add j) = some u := by
  intro j u hj
  match j, hj with
  | 0, hj => simp at hj; subst hj; simpa [Addr.add] using h
theorem Blk.ne {w : World} {b b' : Nat} {c c' : Array Value} {t t' : TypeId} (h : Blk w b c t) (h' : Blk w b' c' t') (ht : t ≠ t') : b ≠ b' := by
  rintro rfl
  unfold Blk at h h'
  rw [h] at h'
  simp at h'
  exact ht h'.2
theorem owns_shape {w : World} {base : Nat} {e : TypeId} {size : Nat} {v : Value} {n : Nat} {xs : List Value} (h : w.ownsRow base e size v n xs) : ∃ ao c, v = .slice ao n c := by
  rcases h.2 with ⟨rfl, rfl⟩ | ⟨g, cap, cur, rfl, _⟩
  · exact ⟨_, _, rfl⟩
  · exact ⟨_, _, rfl⟩
/-- An owned row's block bears its element type: no block of another type is it. -/
theorem owns_ne {w : World} {base : Nat} {e : TypeId} {size : Nat} {v : Value} {n : Nat} {xs : List Value} (h : w.ownsRow base e size v n xs) {b : Nat} {c : Array Value} {t : TypeId} (hb : Blk w b c t) (ht : t ≠ e) : v.ownBlock ≠ some b := by
  rcases h.2 with ⟨rfl, rfl⟩ | ⟨g, cap, cur, rfl, _, hg, _⟩
  · simp [Value.ownBlock]
  · intro hh
    simp [Value.ownBlock] at hh
    subst hh
    exact (Blk.ne hb (show Blk w _ cur e from hg) ht) rfl
theorem Blk.grown {w w' : World} {b : Nat} {c : Array Value} {t : TypeId} {row : Option Nat} (h : Blk w b c t) (hg : w.grownBy w' row) (hne : row ≠ some b) : Blk w' b c t := by
  have := hg.block b h.lt (fun e => hne e.symm)
  unfold Blk at h ⊢
  rw [this]; exact h
/-- Blocks of nodes, of lists of children and of the variables that hold these are as they were. -/
def Keeps (w w' : World) : Prop := ∀ b c t, (t = 54 ∨ t = 48 ∨ t = 56) → Blk w b c t → Blk w' b c t
theorem Keeps.refl (w : World) : Keeps w w := fun _ _ _ _ h => h
theorem Keeps.trans {a b c : World} (h : Keeps a b) (k : Keeps b c) : Keeps a c := fun _ _ _ ht hb => k _ _ _ ht (h _ _ _ ht hb)
theorem Keeps.alloc {a b : World} (h : Keeps a b) (o : Obj) : Keeps a (b.alloc o) := fun _ _ _ ht hb => (h _ _ _ ht hb).alloc o
theorem Keeps.set {a w : World} (h : Keeps a w) {b : Nat} {c : Array Value} {t : TypeId} (hb : Blk w b c t) (ht : t = 3 ∨ t = 23 ∨ t = 24) (o : Nat) (v : Value) : Keeps a (w.setCell ⟨b, o, none⟩ v) :=
  fun b' c' t' ht' hb' => (h _ _ _ ht' hb').setOther (by have := (h _ _ _ ht' hb').ne hb (by rcases ht with rfl | rfl | rfl <;> rcases ht' with rfl | rfl | rfl <;> decide); simpa using this) v
theorem Keeps.grown {a w w' : World} {row : Option Nat} (h : Keeps a w) (hg : w.grownBy w' row) (hne : ∀ b c t, (t = 54 ∨ t = 48 ∨ t = 56) → Blk w b c t → row ≠ some b) : Keeps a w' :=
  fun _ _ _ ht hb => (h _ _ _ ht hb).grown hg (hne _ _ _ ht (h _ _ _ ht hb))

structure St (B : Nat) (W0 w : World) (bi bo i : Nat) (v : Value) (ls : List Nat) : Prop where
  bel : Below B W0 w
  hi : Blk w bi #[.int .i64 i] 3
  ho : Blk w bo #[v] 23
  own : w.ownsRow B 24 1 v ls.length (ls.map ptrV)
  lbi : B ≤ bi
  lbo : B ≤ bo
theorem St.size {B : Nat} {W0 w : World} {bi bo i : Nat} {v : Value} {ls : List Nat} (h : St B W0 w bi bo i v ls) : B ≤ w.heap.size := Nat.le_of_lt (Nat.lt_of_le_of_lt h.lbi h.hi.lt)
theorem St.alloc {B : Nat} {W0 w : World} {bi bo i : Nat} {v : Value} {ls : List Nat} (h : St B W0 w bi bo i v ls) (o : Obj) : St B W0 (w.alloc o) bi bo i v ls :=
  ⟨h.bel.alloc h.size o, h.hi.alloc o, h.ho.alloc o, h.own.alloc o, h.lbi, h.lbo⟩
theorem St.step {B : Nat} {W0 w : World} {bi bo i : Nat} {v : Value} {ls : List Nat} (h : St B W0 w bi bo i v ls) (j : Nat) (x : Int) (hx : x = (j : Int)) : St B W0 (w.setCell ⟨bi, 0, none⟩ (.int .i64 x)) bi bo j v ls := by
  subst hx
  exact ⟨h.bel.setCell h.lbi _, by simpa using h.hi.set 0 (.int .i64 j), h.ho.setOther (h.ho.ne h.hi (by decide)) _, ownsRow_setCell_other h.own (owns_ne h.own h.hi (by decide)) _, h.lbi, h.lbo⟩
/-- What 'append(*out, p)' leaves, its value stored behind 'out'. -/
theorem St.pushed {B : Nat} {W0 w w1 : World} {bi bo i : Nat} {v v' : Value} {ls : List Nat} {p : Nat} (h : St B W0 w bi bo i v ls) (hg : w.grownBy w1 v.ownBlock) (ho : w1.ownsRow B 24 1 v' (ls.length + 1) (ls.map ptrV ++ [ptrV p])) :
    St B W0 (w1.setCell ⟨bo, 0, none⟩ v') bi bo i v' (ls ++ [p]) ∧ Keeps w (w1.setCell ⟨bo, 0, none⟩ v') ∧ w1.cell? ⟨bo, 0, none⟩ = some v ∧ w1.frozen? ⟨bo, 0, none⟩ = false ∧ w.heap.size ≤ (w1.setCell ⟨bo, 0, none⟩ v').heap.size := by
  have hi1 := h.hi.grown hg (owns_ne h.own h.hi (by decide))
  have ho1 := h.ho.grown hg (owns_ne h.own h.ho (by decide))
  have hrow : ∀ k, v.ownBlock = some k → B ≤ k := fun k hk => (h.own.lt k hk).1
  have hs := h.size
  refine ⟨⟨(h.bel.grown hg hs hrow).setCell h.lbo _, hi1.setOther (hi1.ne ho1 (by decide)) _, by simpa using ho1.set 0 v', ?_, h.lbi, h.lbo⟩, ?_, ho1.cell (by rfl), ho1.frozen 0, by simpa using hg.size⟩
  · have := ownsRow_setCell_other ho (owns_ne ho ho1 (by decide)) (a := ⟨bo, 0, none⟩) v'
    simpa using this
  · exact ((Keeps.refl w).grown hg fun b c t ht hb => owns_ne h.own hb (by rcases ht with rfl | rfl | rfl <;> decide)).set ho1 (by simp) _ _

/-- The end of the leaf's way: ws is the world ahead of the new blocks. -/
theorem leaf_end {B : Nat} {W0 w ws w1 : World} {bi bo i n : Nat} {v v' : Value} {ls : List Nat} (hs : St B W0 ws bi bo i v ls) (hk : Keeps w ws) (hsz : ws.heap.size = w.heap.size) (o1 o3 : Obj)
    (hg : (((ws.alloc o1).alloc (.cells #[.slice (some ⟨w.heap.size, 0, none⟩) 1 1, .pointer none] 54)).alloc o3).grownBy w1 v.ownBlock) (ho : w1.ownsRow B 24 1 v' n (ls.map ptrV ++ [ptrV (w.heap.size + 1)])) (hn : n = ls.length + 1) :
    St B W0 (w1.setCell ⟨bo, 0, none⟩ v') bi bo i v' (ls ++ [w.heap.size + 1]) ∧ Keeps w (w1.setCell ⟨bo, 0, none⟩ v') ∧ Blk (w1.setCell ⟨bo, 0, none⟩ v') (w.heap.size + 1) #[.slice (some ⟨w.heap.size, 0, none⟩) 1 1, .pointer none] 54 ∧ w.heap.size ≤ (w1.setCell ⟨bo, 0, none⟩ v').heap.size ∧ w1.cell? ⟨bo, 0, none⟩ = some v ∧ w1.frozen? ⟨bo, 0, none⟩ = false := by
  subst hn
  obtain ⟨r1, r2, r3, r4, r5⟩ := (((hs.alloc o1).alloc _).alloc o3).pushed hg ho
  refine ⟨r1, Keeps.trans (((hk.alloc o1).alloc _).alloc o3) r2, r2 _ _ _ (by simp) (Blk.alloc ?_ o3), Nat.le_trans (by simp [hsz]; omega) r5, r3, r4⟩
  have := Blk.new (ws.alloc o1) #[.slice (some ⟨w.heap.size, 0, none⟩) 1 1, .pointer none] 54
  simpa [hsz] using this

set_option maxRecDepth 100000 in
set_option maxHeartbeats 1000000 in
theorem leaf_case (B : Nat) (W0 w : World) (bi bo i : Nat) (v : Value) (ls : List Nat) (a0 : Option Addr) (len cap : Nat) (depth : Nat) (hs : St B W0 w bi bo i v ls) (hls : ls.length ≤ 1000) (hlen : len ≤ 140737488351232) (hil : i ≤ len)
    (hc : depth = 4 ∨ (depth < 4 ∧ len ≤ i) ∨ (depth < 4 ∧ i < len ∧ ∃ b off z, a0 = some ⟨b, off, none⟩ ∧ w.cell? ⟨b, off + i, none⟩ = some (.int .u8 z) ∧ z % 5 = 0 ∧ 0 ≤ z ∧ z ≤ 255)) :
    Calls Yba.prog 7 #[.slice a0 len cap, ptrV bi, .int .i64 depth, ptrV bo] w fun e w' => ∃ i' v', e = .returned (ptrV (w.heap.size + 1)) ∧ i' ≤ len ∧ St B W0 w' bi bo i' v' (ls ++ [w.heap.size + 1]) ∧ Keeps w w' ∧ Blk w' (w.heap.size + 1) #[.slice (some ⟨w.heap.size, 0, none⟩) 1 1, .pointer none] 54 ∧ w.heap.size ≤ w'.heap.size := by
  obtain ⟨i0, hi0, hz0, hz1, hz2⟩ := info_parts Yba.info24
  obtain ⟨ao, cc, rfl⟩ := owns_shape hs.own
  have c1 := hs.hi.cell (i := 0) (v := .int .i64 i) (by rfl)
  have f1 := hs.hi.frozen 0
  have c2 := hs.ho.cell (i := 0) (v := .slice ao ls.length cc) (by rfl)
  have f2 := hs.ho.frozen 0
  have hne : bo ≠ bi := hs.ho.ne hs.hi (by decide)
  have hlo := hs.ho.lt
  have hli := hs.hi.lt
  have hB := hs.size
  have hne2 : ¬ bi = bo := fun h => hne h.symm
  have ho1 : ∀ o1 o2 o3, (((w.alloc o1).alloc o2).alloc o3).ownsRow B 24 1 (.slice ao ls.length cc) ls.length (ls.map ptrV) := fun _ _ _ => ((hs.own.alloc _).alloc _).alloc _
  have ho2 : ∀ o1 o2 o3, ((((w.setCell ⟨bi, 0, none⟩ (.int .i64 (↑i + 1))).alloc o1).alloc o2).alloc o3).ownsRow B 24 1 (.slice ao ls.length cc) ls.length (ls.map ptrV) := fun _ _ _ => (((hs.step (i + 1) (i + 1) (by omega)).own.alloc _).alloc _).alloc _
  have HS : Hid (St B W0 w bi bo i (.slice ao ls.length cc) ls) := hs
  clear hs
  rcases hc with rfl | ⟨hd, hi⟩ | ⟨hd, hi, b, off, z, rfl, hcz, hz5, hz6, hz7⟩
  · clear ho2
    go_enter Yba.func7, Yba.ntmps7
    go_wp2_with (at_builtin; refine wpList_append_own _ rfl (.tmp 66) (.tmp 68) 23 rfl B 24 i0 (.pointer none) 1 8 Yba.underlying23 hi0 hz0 hz1 hz2 rfl (by decide) _ ls.length (ls.map ptrV) rfl (ho1 _ _ _) _ 1 1 [ptrV (w.heap.size + 1)] rfl rfl ?c1 ?c2 ?c3 ?c4 ?c5 ?_)
    case c1 => refine news_one ?_; simp [go_sem]
    case c2 => simp [Value.oneCell']
    case c3 => unfold maxLen; omega
    case c4 => omega
    case c5 => simp; omega
    · intro v' w1 hown1 hg1 _
      obtain ⟨ao', cc', rfl⟩ := owns_shape hown1
      obtain ⟨r1, r2, r3, r4, r5, r6⟩ := leaf_end HS.out (Keeps.refl w) (by simp) _ _ hg1 hown1 rfl
      clear ho1 hown1 hg1 c1 f1 c2 f2
      go_wp2
      go_ret
      exact ⟨i, _, rfl, by omega, r1, r2, r3, r4⟩
  · clear ho2
    go_enter Yba.func7, Yba.ntmps7
    go_wp2_with (at_builtin; refine wpList_append_own _ rfl (.tmp 66) (.tmp 68) 23 rfl B 24 i0 (.pointer none) 1 8 Yba.underlying23 hi0 hz0 hz1 hz2 rfl (by decide) _ ls.length (ls.map ptrV) rfl (ho1 _ _ _) _ 1 1 [ptrV (w.heap.size + 1)] rfl rfl ?c1 ?c2 ?c3 ?c4 ?c5 ?_)
    case c1 => refine news_one ?_; simp [go_sem]
    case c2 => simp [Value.oneCell']
    case c3 => unfold maxLen; omega
    case c4 => omega
    case c5 => simp; omega
    · intro v' w1 hown1 hg1 _
      obtain ⟨ao', cc', rfl⟩ := owns_shape hown1
      obtain ⟨r1, r2, r3, r4, r5, r6⟩ := leaf_end HS.out (Keeps.refl w) (by simp) _ _ hg1 hown1 rfl
      clear ho1 hown1 hg1 c1 f1 c2 f2
      go_wp2
      go_ret
      exact ⟨i, _, rfl, by omega, r1, r2, r3, r4⟩
  · clear ho1
    go_enter Yba.func7, Yba.ntmps7
    go_wp2_with (at_builtin; refine wpList_append_own _ rfl (.tmp 66) (.tmp 68) 23 rfl B 24 i0 (.pointer none) 1 8 Yba.underlying23 hi0 hz0 hz1 hz2 rfl (by decide) _ ls.length (ls.map ptrV) rfl (ho2 _ _ _) _ 1 1 [ptrV (w.heap.size + 1)] rfl rfl ?c1 ?c2 ?c3 ?c4 ?c5 ?_)
    case c1 => refine news_one ?_; simp [go_sem]
    case c2 => simp [Value.oneCell']
    case c3 => unfold maxLen; omega
    case c4 => omega
    case c5 => simp; omega
    · intro v' w1 hown1 hg1 _
      obtain ⟨ao', cc', rfl⟩ := owns_shape hown1
      obtain ⟨r1, r2, r3, r4, r5, r6⟩ := leaf_end (HS.out.step (i + 1) (i + 1) (by omega)) ((Keeps.refl w).set HS.out.hi (by simp) 0 (.int .i64 (↑i + 1))) (by simp) _ _ hg1 hown1 rfl
      clear ho2 hown1 hg1 c1 f1 c2 f2
      go_wp2
      go_ret
      exact ⟨i + 1, _, rfl, by omega, r1, r2, r3, r4⟩
end Go.Proofs.Ybulkdkmo
