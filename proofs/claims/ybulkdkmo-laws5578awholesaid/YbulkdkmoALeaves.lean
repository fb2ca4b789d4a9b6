/-
  LawS5578AWhole: what (*node[int]).leaves does over a tree in memory, with the law's own closure.
-/
import Derived.Test.YbulkdkmoABuild
namespace Go.Proofs.Ybulkdkmo
open Go.ChangeShapes Go.WideShapes Go.ChangeAt Go.RowKit
/-- The state while the leaves are yielded: q: what the closure has logged. -/
structure Lg (B : Nat) (W w : World) (bl bc bk : Nat) (k : Int) (q : List Nat) (v : Value) : Prop where
  bel : Below B W w
  hl : Blk w bl #[v] 23
  hc : Blk w bc #[.int .i64 q.length] 3
  hk : Blk w bk #[.int .i64 k] 3
  own : w.ownsRow B 24 1 v q.length (q.map ptrV)
  lbl : B ≤ bl
  lbc : B ≤ bc
  lbk : B ≤ bk
  ne : bc ≠ bk
theorem Lg.size {B : Nat} {W w : World} {bl bc bk : Nat} {k : Int} {q : List Nat} {v : Value} (h : Lg B W w bl bc bk k q v) : B ≤ w.heap.size := Nat.le_of_lt (Nat.lt_of_le_of_lt h.lbl h.hl.lt)
theorem Lg.alloc {B : Nat} {W w : World} {bl bc bk : Nat} {k : Int} {q : List Nat} {v : Value} (h : Lg B W w bl bc bk k q v) (o : Obj) : Lg B W (w.alloc o) bl bc bk k q v :=
  ⟨h.bel.alloc h.size o, h.hl.alloc o, h.hc.alloc o, h.hk.alloc o, h.own.alloc o, h.lbl, h.lbc, h.lbk, h.ne⟩
/-- Behind 'log = append(log, l); calls++'. -/
theorem Lg.pushed {B : Nat} {W w w1 : World} {bl bc bk : Nat} {k : Int} {q : List Nat} {v v' : Value} {p n : Nat} {x : Int} (h : Lg B W w bl bc bk k q v) (hg : w.grownBy w1 v.ownBlock) (ho : w1.ownsRow B 24 1 v' n (q.map ptrV ++ [ptrV p])) (hn : n = q.length + 1) (hx : x = (q.length : Int) + 1) :
    Lg B W ((w1.setCell ⟨bl, 0, none⟩ v').setCell ⟨bc, 0, none⟩ (.int .i64 x)) bl bc bk k (q ++ [p]) v' ∧ w1.cell? ⟨bl, 0, none⟩ = some v ∧ w1.frozen? ⟨bl, 0, none⟩ = false ∧ w1.cell? ⟨bc, 0, none⟩ = some (.int .i64 q.length) ∧ w1.frozen? ⟨bc, 0, none⟩ = false ∧ w1.cell? ⟨bk, 0, none⟩ = some (.int .i64 k) := by
  subst hn
  have hx' : x = ((q ++ [p]).length : Int) := by simp; omega
  subst hx'
  have l1 := h.hl.grown hg (owns_ne h.own h.hl (by decide))
  have c1 := h.hc.grown hg (owns_ne h.own h.hc (by decide))
  have k1 := h.hk.grown hg (owns_ne h.own h.hk (by decide))
  have c2 := c1.setOther (a := ⟨bl, 0, none⟩) (c1.ne l1 (by decide)) v'
  have hrow : ∀ k, v.ownBlock = some k → B ≤ k := fun k hk => (h.own.lt k hk).1
  have nlc : bl ≠ bc := l1.ne c1 (by decide)
  refine ⟨⟨((h.bel.grown hg h.size hrow).setCell h.lbl _).setCell h.lbc _, ?_, by simpa using c2.set 0 (.int .i64 ((q ++ [p]).length : Int)), ?_, ?_, h.lbl, h.lbc, h.lbk, h.ne⟩, l1.cell (by rfl), l1.frozen 0, c1.cell (by rfl), c1.frozen 0, k1.cell (by rfl)⟩
  · have := l1.set 0 v'
    exact (show Blk _ _ #[v'] _ by simpa using this).setOther nlc _
  · exact (k1.setOther (k1.ne l1 (by decide)) _).setOther (fun e => h.ne e.symm) _
  · have := owns_setOther (owns_setOther ho l1 (by decide) (o := 0) v') c2 (by decide) (o := 0) (.int .i64 ((q ++ [p]).length : Int))
    simpa using this
set_option maxRecDepth 100000 in
theorem yield_any (B : Nat) (W w : World) (bl bc bk : Nat) (k : Int) (q : List Nat) (v : Value) (p : Nat) (h : Lg B W w bl bc bk k q v) (hq : q.length ≤ 1000) :
    Calls Yba.prog 9 #[ptrV p, ptrV bl, ptrV bc, ptrV bk] w fun e w' => ∃ v', e = .returned (.bool ((q.length : Int) + 1 != k)) ∧ Lg B W w' bl bc bk k (q ++ [p]) v' ∧ w.heap.size ≤ w'.heap.size := by
  obtain ⟨i0, hi0, hz0, hz1, hz2⟩ := info_parts Yba.info24
  obtain ⟨ao, cc, rfl⟩ := owns_shape h.own
  have c1 := h.hl.cell (i := 0) (v := .slice ao q.length cc) (by rfl)
  have HO := fun o => h.own.alloc o
  have HS : Hid (Lg B W w bl bc bk k q (.slice ao q.length cc)) := h
  have hB := h.size
  clear h
  go_enter Yba.func9, Yba.ntmps9
  go_wp2_with (at_builtin; go_loud (refine wpList_append_own _ rfl (.tmp 6) (.tmp 8) 23 rfl B 24 i0 (.pointer none) 1 8 Yba.underlying23 hi0 hz0 hz1 hz2 rfl (by decide) _ q.length (q.map ptrV) rfl (HO _) _ 1 1 [ptrV p] rfl rfl ?c1 ?c2 ?c3 ?c4 ?c5 ?_))
  case c1 => refine news_one ?_; simp [go_sem]
  case c2 => simp [Value.oneCell']
  case c3 => unfold maxLen; omega
  case c4 => omega
  case c5 => simp; omega
  · intro v' w1 hown1 hg1 _
    obtain ⟨ao', cc', rfl⟩ := owns_shape hown1
    obtain ⟨r1, r2, r3, r4, r5, r6⟩ := (HS.out.alloc _).pushed hg1 hown1 rfl rfl
    have nlc : ¬ bc = bl := fun e => by have := HS.out.hl.ne HS.out.hc (by decide); omega
    have nlk : ¬ bk = bl := fun e => by have := HS.out.hl.ne HS.out.hk (by decide); omega
    have nck : ¬ bk = bc := fun e => HS.out.ne e.symm
    have hsz : w.heap.size ≤ w1.heap.size := by have := hg1.size; simp at this; omega
    have HR : Hid (Lg B W ((w1.setCell ⟨bl, 0, none⟩ (.slice ao' (q.length + 1) cc')).setCell ⟨bc, 0, none⟩ (.int .i64 ((q.length : Int) + 1))) bl bc bk k (q ++ [p]) (.slice ao' (q.length + 1) cc')) := r1
    clear HO hown1 hg1 c1 r1
    go_wp2
    go_ret
    exact ⟨_, rfl, HR.out, by simpa using hsz⟩
def okB (n l k : Nat) : Bool := decide (k = 0 ∨ n + l < k)
/-- What is logged of the leaves ls when n have been logged before. -/
def took (n : Nat) (ls : List Nat) (k : Nat) : List Nat := if okB n ls.length k = true then ls else ls.take (k - n)
theorem took_ok {n : Nat} {ls : List Nat} {k : Nat} (h : okB n ls.length k = true) : took n ls k = ls := by simp [took, h]
theorem took_one {n p k : Nat} (h : k = 0 ∨ n < k) : took n [p] k = [p] := by
  unfold took
  split
  · rfl
  · rename_i hh
    simp [okB] at hh
    rw [List.take_of_length_le (by simp; omega)]
theorem ok_one {n p k : Nat} (h : k = 0 ∨ n < k) : ((n : Int) + 1 != (k : Int)) = okB n ([p] : List Nat).length k := by
  rw [Bool.eq_iff_iff]
  simp [okB]
  omega
theorem ok_sum {n a b k : Nat} (_h : okB n a k = true) : okB (n + a) b k = okB n (a + b) k := by
  rw [Bool.eq_iff_iff]
  simp [okB]
  omega
theorem ok_mono {n a b k : Nat} (h : okB n a k = false) : okB n (a + b) k = false := by
  simp [okB] at h ⊢
  omega
theorem took_append_ok {n : Nat} {xs ys : List Nat} {k : Nat} (h : okB n xs.length k = true) : took n (xs ++ ys) k = xs ++ took (n + xs.length) ys k := by
  have := ok_sum (b := ys.length) h
  unfold took
  rw [List.length_append, ← this]
  split
  · rfl
  · rename_i hh
    simp [okB] at h hh
    rw [List.take_append, List.take_of_length_le (by omega), show k - n - xs.length = k - (n + xs.length) by omega]
theorem took_append_no {n : Nat} {xs ys : List Nat} {k : Nat} (h : okB n xs.length k = false) : took n (xs ++ ys) k = took n xs k := by
  have := ok_mono (b := ys.length) h
  unfold took
  rw [List.length_append, this, h]
  simp [okB] at h
  simp only [Bool.false_eq_true, if_false]
  rw [List.take_append, show k - n - xs.length = 0 by omega]
  simp
def Yielded (B : Nat) (W w : World) (bl bc bk k : Nat) (q ls : List Nat) (e : Ending) (w' : World) : Prop :=
  ∃ v', e = .returned (.bool (okB q.length ls.length k)) ∧ Lg B W w' bl bc bk k (q ++ took q.length ls k) v' ∧ w.heap.size ≤ w'.heap.size
set_option maxRecDepth 100000 in
theorem leaves_leaf (B : Nat) (W w : World) (bl bc bk k : Nat) (q : List Nat) (v : Value) (p : Nat) (s : Value) (h : Lg B W w bl bc bk k q v) (hq : q.length ≤ 1000) (hk : k = 0 ∨ q.length < k) (hp : Blk w p #[s, .pointer none] 54) :
    Calls Yba.prog 8 #[ptrV p, .func (.func 9) #[] #[ptrV bl, ptrV bc, ptrV bk]] w (Yielded B W w bl bc bk k q [p]) := by
  have c1 := hp.cell (i := 1) (v := .pointer none) (by rfl)
  have HS : Hid (Lg B W w bl bc bk k q v) := h
  clear h hp
  go_enter Yba.func8, Yba.ntmps8
  go_wp2_with (go_at_call 9; refine (yield_any B W w bl bc bk k q v p HS.out hq).mono ?_; rintro e w' ⟨v', rfl, r1, r2⟩)
  go_ret
  exact ⟨v', by simp [ok_one (p := p) hk], by rw [took_one hk]; exact r1, r2⟩
def pre (ks : List (Nat × List Nat)) (j : Nat) : List Nat := ((ks.take j).map Prod.snd).flatten
theorem pre_succ {ks : List (Nat × List Nat)} {j : Nat} {x : Nat × List Nat} (h : ks[j]? = some x) : pre ks (j + 1) = pre ks j ++ x.2 := by
  unfold pre
  rw [List.take_add_one, h]
  simp
theorem pre_all (ks : List (Nat × List Nat)) : pre ks ks.length = (ks.map Prod.snd).flatten := by simp [pre]
theorem pre_split (ks : List (Nat × List Nat)) (j : Nat) : (ks.map Prod.snd).flatten = pre ks j ++ ((ks.drop j).map Prod.snd).flatten := by
  unfold pre
  rw [← List.flatten_append, ← List.map_append, List.take_append_drop]
theorem not_yet {q : List Nat} {ks : List (Nat × List Nat)} {j k : Nat} (h : okB q.length (pre ks j).length k = true) : k = 0 ∨ (q ++ pre ks j).length < k := by
  simp only [okB, decide_eq_true_eq] at h
  simp only [List.length_append]
  exact h
theorem pre_bound (ks : List (Nat × List Nat)) (j : Nat) (x : Nat × List Nat) (h : ks[j]? = some x) : (pre ks j).length + x.2.length ≤ ((ks.map Prod.snd).flatten).length := by
  rw [pre_split ks (j + 1), pre_succ h, List.length_append, List.length_append]
  omega
theorem going {B : Nat} {W w2 : World} {bl bc bk k : Nat} {q : List Nat} {ks : List (Nat × List Nat)} {j : Nat} {x : Nat × List Nat} {v : Value} (hx : ks[j]? = some x) (hok : okB q.length (pre ks j).length k = true) (hb : okB (q ++ pre ks j).length x.2.length k = true)
    (hr : Lg B W w2 bl bc bk k (q ++ pre ks j ++ took (q ++ pre ks j).length x.2 k) v) : Lg B W w2 bl bc bk k (q ++ pre ks (j + 1)) v ∧ okB q.length (pre ks (j + 1)).length k = true := by
  rw [took_ok hb] at hr
  rw [List.length_append, ok_sum hok] at hb
  rw [pre_succ hx]
  exact ⟨by rw [← List.append_assoc]; exact hr, by rw [List.length_append]; exact hb⟩
theorem stopped {B : Nat} {W w w2 : World} {bl bc bk k : Nat} {q : List Nat} {ks : List (Nat × List Nat)} {j : Nat} {x : Nat × List Nat} {v : Value} (hx : ks[j]? = some x) (hok : okB q.length (pre ks j).length k = true) (hb : okB (q ++ pre ks j).length x.2.length k = false)
    (hr : Lg B W w2 bl bc bk k (q ++ pre ks j ++ took (q ++ pre ks j).length x.2 k) v) (hsz : w.heap.size ≤ w2.heap.size) : Yielded B W w bl bc bk k q (ks.map Prod.snd).flatten (.returned (.bool false)) w2 := by
  have e1 : okB q.length (pre ks j ++ x.2).length k = false := by rw [List.length_append, ← ok_sum hok, ← List.length_append]; exact hb
  refine ⟨v, ?_, ?_, hsz⟩
  · rw [pre_split ks (j + 1), pre_succ hx, List.length_append, ok_mono e1]
  · rw [pre_split ks (j + 1), pre_succ hx, took_append_no e1, took_append_ok hok]
    rw [List.length_append] at hr
    rw [← List.append_assoc]; exact hr
set_option maxRecDepth 100000 in
set_option maxHeartbeats 1000000 in
theorem leaves_inner (B : Nat) (W : World) (hBW : W.heap.size ≤ B) (bl bc bk k : Nat) (m : Nat)
    (ih : ∀ (w : World) (q : List Nat) (v : Value) (p : Nat) (ls : List Nat), (∃ lo, TreeAt W lo m p ls) → Lg B W w bl bc bk k q v → (k = 0 ∨ q.length < k) → q.length + ls.length ≤ 1000 → Calls Yba.prog 8 #[ptrV p, .func (.func 9) #[] #[ptrV bl, ptrV bc, ptrV bk]] w (Yielded B W w bl bc bk k q ls))
    (w : World) (q : List Nat) (v : Value) (p kb b cap : Nat) (ks : List (Nat × List Nat)) (c : Array Value) (lo : Nat) (h : Lg B W w bl bc bk k q v) (hk : k = 0 ∨ q.length < k) (hq : q.length + ((ks.map Prod.snd).flatten).length ≤ 1000) (hk3 : ks.length ≤ 3)
    (h4 : Blk W p #[.slice none 0 0, ptrV kb] 54) (h5 : Blk W kb #[.slice (some ⟨b, 0, none⟩) ks.length cap] 48) (h6 : Blk W b c 56) (h7 : RowOf c ks) (h8 : ∀ x, x ∈ ks → TreeAt W lo m x.1 x.2) :
    Calls Yba.prog 8 #[ptrV p, .func (.func 9) #[] #[ptrV bl, ptrV bc, ptrV bk]] w (Yielded B W w bl bc bk k q (ks.map Prod.snd).flatten) := by
  have c1 := (h4.below h.bel (Nat.lt_of_lt_of_le h4.lt hBW)).cell (i := 1) (v := ptrV kb) (by rfl)
  have c2 := (h5.below h.bel (Nat.lt_of_lt_of_le h5.lt hBW)).cell (i := 0) (v := .slice (some ⟨b, 0, none⟩) ks.length cap) (by rfl)
  have hbB : b < B := Nat.lt_of_lt_of_le h6.lt hBW
  have HI : Hid (∀ (w : World) (q : List Nat) (v : Value) (p : Nat) (ls : List Nat), (∃ lo, TreeAt W lo m p ls) → Lg B W w bl bc bk k q v → (k = 0 ∨ q.length < k) → q.length + ls.length ≤ 1000 → Calls Yba.prog 8 #[ptrV p, .func (.func 9) #[] #[ptrV bl, ptrV bc, ptrV bk]] w (Yielded B W w bl bc bk k q ls)) := ih
  have HS : Hid (Lg B W w bl bc bk k q v ∧ Blk W b c 56 ∧ RowOf c ks ∧ (∀ x, x ∈ ks → TreeAt W lo m x.1 x.2) ∧ (k = 0 ∨ q.length < k)) := ⟨h, h6, h7, h8, hk⟩
  clear ih h h4 h5 h6 h7 h8 hk
  go_enter Yba.func8, Yba.ntmps8
  go_wp2_with fail
  clear c1 c2
  go_loopg [22] ks.length (fun g x wr => ∃ (j : Nat) (v' : Value), g = ks.length - j ∧ j ≤ ks.length ∧ x = .int .i64 j ∧ Lg B W wr bl bc bk k (q ++ pre ks j) v' ∧ okB q.length (pre ks j).length k = true ∧ w.heap.size ≤ wr.heap.size)
  case atStart => exact ⟨0, v, rfl, Nat.zero_le _, rfl, by simpa [pre] using HS.out.1, by have := HS.out.2.2.2.2; simpa [pre, okB] using this, Nat.le_refl _⟩
  case round =>
    obtain ⟨j, v', hg, hj, rfl, hlg, hok, hsz⟩ := hrel
    have HG : Hid (gk = ks.length - j) := hg
    have HL : Hid (Lg B W wr bl bc bk k (q ++ pre ks j) v' ∧ okB q.length (pre ks j).length k = true) := ⟨hlg, hok⟩
    clear hg
    by_cases hlt : j < ks.length
    · obtain ⟨x, hx⟩ : ∃ x, ks[j]? = some x := ⟨_, List.getElem?_eq_getElem hlt⟩
      obtain ⟨r0, r1, r2⟩ := HS.out.2.2.1 j x hx
      have hbw := HS.out.2.1.below hlg.bel hbB
      have d0 := hbw.cell r0
      have d1 := hbw.cell r1
      have d2 := hbw.cell r2
      have HX : Hid (ks[j]? = some x) := hx
      clear hlg hok r0 r1 r2 hbw hx
      go_wp2_with fail
      refine (HI.out _ (q ++ pre ks j) v' x.1 x.2 ⟨lo, HS.out.2.2.2.1 x (List.mem_of_getElem? HX.out)⟩ (HL.out.1.alloc _) (not_yet HL.out.2) (by have := pre_bound ks j x HX.out; simp only [List.length_append]; omega)).mono ?_
      rintro e w2 ⟨v2, rfl, lg2, sz2⟩
      have HR : Hid (Lg B W w2 bl bc bk k (q ++ pre ks j ++ took (q ++ pre ks j).length x.2 k) v2) := lg2
      have hsz2 : w.heap.size ≤ w2.heap.size := by simp at sz2; omega
      clear lg2 sz2 d0 d1 d2 hsz
      generalize hb : okB (q ++ pre ks j).length x.2.length k = bb
      have HB : Hid (okB (q ++ pre ks j).length x.2.length k = bb) := hb
      clear hb
      cases bb
      · go_wp2_with fail
        go_ret
        exact stopped HX.out HL.out.2 HB.out HR.out hsz2
      · go_wp2_with fail
        go_roundg (ks.length - (j + 1))
        case measure => have := HG.out; omega
        case rel => exact ⟨j + 1, v2, rfl, by omega, by go_num, (going HX.out HL.out.2 HB.out HR.out).1, (going HX.out HL.out.2 HB.out HR.out).2, hsz2⟩
    · obtain rfl : ks.length = j := by omega
      clear hlg hok
      go_wp2_with fail
      go_ret
      rw [pre_all] at HL
      exact ⟨v', by rw [HL.out.2]; rfl, by rw [took_ok HL.out.2]; exact HL.out.1, hsz⟩
theorem leaves_any (B : Nat) (W : World) (hBW : W.heap.size ≤ B) (bl bc bk k : Nat) (m : Nat) :
    ∀ (w : World) (q : List Nat) (v : Value) (p : Nat) (ls : List Nat), (∃ lo, TreeAt W lo m p ls) → Lg B W w bl bc bk k q v → (k = 0 ∨ q.length < k) → q.length + ls.length ≤ 1000 → Calls Yba.prog 8 #[ptrV p, .func (.func 9) #[] #[ptrV bl, ptrV bc, ptrV bk]] w (Yielded B W w bl bc bk k q ls) := by
  have leaf : ∀ (w : World) (q : List Nat) (v : Value) (p lo : Nat), LeafAt W lo p → Lg B W w bl bc bk k q v → (k = 0 ∨ q.length < k) → q.length ≤ 1000 → Calls Yba.prog 8 #[ptrV p, .func (.func 9) #[] #[ptrV bl, ptrV bc, ptrV bk]] w (Yielded B W w bl bc bk k q [p]) := by
    rintro w q v p lo ⟨_, s, hp⟩ hl hk hq
    exact leaves_leaf B W w bl bc bk k q v p s hl hq hk (hp.below hl.bel (Nat.lt_of_lt_of_le hp.lt hBW))
  induction m with
  | zero =>
    rintro w q v p ls ⟨lo, h, rfl⟩ hl hk hq
    exact leaf w q v p lo h hl hk (by omega)
  | succ m ih =>
    rintro w q v p ls ⟨lo, h⟩ hl hk hq
    rcases h with ⟨h, rfl⟩ | ⟨kb, b, cap, ks, c, _, _, _, h4, h5, h6, h7, h8, rfl, h10⟩
    · exact leaf w q v p lo h hl hk (by omega)
    · exact leaves_inner B W hBW bl bc bk k m ih w q v p kb b cap ks c lo hl hk hq h10 h4 h5 h6 h7 h8
end Go.Proofs.Ybulkdkmo
