/-
  LawS5582BWhole: the walk of the law.
-/
import Derived.Test.YbulkdkosAt
namespace Go.Proofs.Ybulkdkos
open Go.ChangeShapes Go.WideShapes Go.ChangeAt Go.RowKit
set_option linter.unusedVariables false
theorem Yba.info45 : (Yba.prog.info? 45).map (fun i => (i.zero, i.size, i.bytes)) = some (some (.agg #[.slice none 0 0, .slice none 0 0, .int .u64 0]), 3, 56) := by kernel_rfl
theorem Yba.info47 : (Yba.prog.info? 47).map (fun i => (i.zero, i.size, i.bytes)) = some (some (.agg #[.slice none 0 0, .int .i64 0]), 2, 32) := by kernel_rfl
theorem make_ps (n : Nat) (hn : n ≤ 2000000) (w : World) : (Instr.makeSlice 43 (.int .i64 (n : Int)) (.int .i64 (n : Int))).run Yba.prog w = .ok (.slice (some ⟨w.heap.size, 0, none⟩) n n) (w.alloc (.cells (madeCells #[.slice none 0 0, .slice none 0 0, .int .u64 0] (n * 3)) 45)) := by
  obtain ⟨i, hi, hz0, hz1, hz2⟩ := info_parts Yba.info45
  have := run_make (P := Yba.prog) w 43 45 i _ Yba.underlying43 hi hz0 .i64 .i64 n n (by omega) (by omega) (by rw [hz2]; omega) (by omega)
  rw [hz1] at this
  simpa [Value.cells] using this
/-- What the walk is told of the runs that came in. -/
def CameRows (w : World) (a : Option Addr) (len : Nat) (A : Nat → Option Addr) (L C : Nat → Nat) (Z : Nat → Nat → Int) : Prop :=
  0 < len → ∃ b off, a = some ⟨b, off, none⟩ ∧ b < w.heap.size ∧ ∀ r, r < len → w.cell? ⟨b, off + r, none⟩ = some (.slice (A r) (L r) (C r)) ∧ (0 < L r → ∃ b' off', A r = some ⟨b', off', none⟩ ∧ b' < w.heap.size ∧ ∀ c, c < L r → w.cell? ⟨b', off' + c, none⟩ = some (.int .u64 (Z r c)))
def FillP (c : Array Value) (k : Nat) (f : Nat → Int) : Prop := ∀ m, m < k → c[m * 3]? = some (.slice none 0 0) ∧ c[m * 3 + 1]? = some (.slice none 0 0) ∧ c[m * 3 + 2]? = some (.int .u64 (f m))
theorem FillP.step {c : Array Value} {k n : Nat} {f : Nat → Int} (h : FillP c k f) (hc : c.size = n * 3) (hk : k < n) {x : Value} (hx : x = .int .u64 (f k)) : FillP (((c.setIfInBounds (k * 3) (.slice none 0 0)).setIfInBounds (k * 3 + 1) (.slice none 0 0)).setIfInBounds (k * 3 + 2) x) (k + 1) f := by
  subst hx
  intro j hj
  simp only [Array.getElem?_setIfInBounds, Array.size_setIfInBounds]
  by_cases e : j = k
  · subst e
    refine ⟨?_, ?_, ?_⟩
    · rw [if_neg (by omega), if_neg (by omega), if_pos rfl, if_pos (by omega)]
    · rw [if_neg (by omega), if_pos rfl, if_pos (by omega)]
    · rw [if_pos rfl, if_pos (by omega)]
  · obtain ⟨h1, h2, h3⟩ := h j (by omega)
    refine ⟨?_, ?_, ?_⟩
    · rw [if_neg (by omega), if_neg (by omega), if_neg (by omega)]; exact h1
    · rw [if_neg (by omega), if_neg (by omega), if_neg (by omega)]; exact h2
    · rw [if_neg (by omega), if_neg (by omega), if_neg (by omega)]; exact h3
/-- The pieces of run r lie in block b. -/
def Ps (w : World) (L : Nat → Nat) (Z : Nat → Nat → Int) (b r : Nat) : Prop := ∃ c, Blk w b c 45 ∧ c.size = L r * 3 ∧ FillP c (L r) (Z r)
def rcells (L : Nat → Nat) : List (Nat × Nat) → List Value
  | [] => []
  | x :: rs => .slice (some ⟨x.1, 0, none⟩) (L x.2) (L x.2) :: .int .i64 (pre L (x.2 + 1)) :: rcells L rs
theorem rcells_append (L : Nat → Nat) (rs : List (Nat × Nat)) (x : Nat × Nat) : rcells L (rs ++ [x]) = rcells L rs ++ [.slice (some ⟨x.1, 0, none⟩) (L x.2) (L x.2), .int .i64 (pre L (x.2 + 1))] := by
  induction rs with
  | nil => rfl
  | cons y rs ih => simp [rcells, ih]
theorem rcells_length (L : Nat → Nat) (rs : List (Nat × Nat)) : (rcells L rs).length = rs.length * 2 := by
  induction rs with
  | nil => rfl
  | cons x rs ih => simp [rcells, ih]; omega
theorem rcells_at (L : Nat → Nat) (rs : List (Nat × Nat)) : ∀ (k : Nat) (x : Nat × Nat), rs[k]? = some x → (rcells L rs)[k * 2]? = some (.slice (some ⟨x.1, 0, none⟩) (L x.2) (L x.2)) ∧ (rcells L rs)[k * 2 + 1]? = some (.int .i64 (pre L (x.2 + 1))) := by
  induction rs with
  | nil => intro k x h; simp at h
  | cons y rs ih =>
    intro k x h
    match k, h with
    | 0, h => simp at h; subst h; simp [rcells]
    | k + 1, h =>
      obtain ⟨h1, h2⟩ := ih k x (by simpa using h)
      have e : (k + 1) * 2 = k * 2 + 1 + 1 := by omega
      simp only [e, rcells, List.getElem?_cons_succ]
      exact ⟨h1, h2⟩
theorem news_two {w : World} {g : Nat} {x y : Value} (h0 : w.cell? ⟨g, 0, none⟩ = some x) (h1 : w.cell? ⟨g, 1, none⟩ = some y) : ∀ j u, [x, y][j]? = some u → w.cell? ((⟨g, 0, none⟩ : Addr).add j) = some u := by
  intro j u hj
  match j, hj with
  | 0, hj => simp at hj; subst hj; simpa [Addr.add] using h0
  | 1, hj => simp at hj; subst hj; simpa [Addr.add] using h1
theorem Blk.at {w : World} {b : Nat} {c : Array Value} {t : TypeId} (h : Blk w b c t) {i : Nat} (hi : i < c.size) : (∃ v, w.cell? ⟨b, i, none⟩ = some v) ∧ w.frozen? ⟨b, i, none⟩ = false :=
  ⟨⟨_, h.cell (Array.getElem?_eq_getElem hi)⟩, h.frozen i⟩
theorem owns_ne {w : World} {base : Nat} {e : TypeId} {size : Nat} {v : Value} {n : Nat} {xs : List Value} (h : w.ownsRow base e size v n xs) {b : Nat} {c : Array Value} {t : TypeId} (hb : Blk w b c t) (ht : t ≠ e) : v.ownBlock ≠ some b := by
  rcases h.2 with ⟨rfl, rfl⟩ | ⟨g, cap, cur, rfl, _, hg, _⟩
  · simp [Value.ownBlock]
  · intro hh
    simp [Value.ownBlock] at hh
    subst hh
    exact (Blk.ne hb (show Blk w _ cur e from hg) ht) rfl
/-- The list in the middle of its making: j of the runs have been looked at. -/
structure Lst (w wr : World) (L : Nat → Nat) (Z : Nat → Nat → Int) (j : Nat) (v : Value) (x : Int) (rs : List (Nat × Nat)) : Prop where
  bel : Below w.heap.size w wr
  var : Blk wr w.heap.size #[v, .int .i64 x] 42
  row : wr.ownsRow w.heap.size 47 2 v rs.length (rcells L rs)
  idx : rs.map Prod.snd = ne L j
  ps : ∀ y, y ∈ rs → Ps wr L Z y.1 y.2 ∧ w.heap.size ≤ y.1
theorem Ps.keep {w w' : World} {L : Nat → Nat} {Z : Nat → Nat → Int} {b r : Nat} (h : Ps w L Z b r) (hk : ∀ c, Blk w b c 45 → Blk w' b c 45) : Ps w' L Z b r := by
  obtain ⟨c, h1, h2⟩ := h
  exact ⟨c, hk c h1, h2⟩
theorem Lst.below {w wr wx : World} {L : Nat → Nat} {Z : Nat → Nat → Int} {j : Nat} {v : Value} {x : Int} {rs : List (Nat × Nat)} (h : Lst w wr L Z j v x rs) (hb : Below wr.heap.size wr wx) : Lst w wx L Z j v x rs :=
  ⟨h.bel.trans (hb.mono h.bel.size), h.var.below hb h.var.lt, own_below h.row hb, h.idx, fun y hy => ⟨(h.ps y hy).1.keep fun c hc => hc.below hb hc.lt, (h.ps y hy).2⟩⟩
theorem Lst.skip {w wr : World} {L : Nat → Nat} {Z : Nat → Nat → Int} {j : Nat} {v : Value} {x : Int} {rs : List (Nat × Nat)} (h : Lst w wr L Z j v x rs) (h0 : L j = 0) : Lst w wr L Z (j + 1) v x rs :=
  ⟨h.bel, h.var, h.row, by rw [ne_succ, if_neg (by omega), List.append_nil]; exact h.idx, h.ps⟩
/-- Behind 'l.runs = append(l.runs, ..)'. -/
theorem Lst.pushed {w wx w1 : World} {L : Nat → Nat} {Z : Nat → Nat → Int} {j n bp : Nat} {v v' : Value} {x : Int} {rs : List (Nat × Nat)} {o : Obj} (h : Lst w wx L Z j v x rs) (hp : Ps wx L Z bp j) (hbp : w.heap.size ≤ bp) (h0 : 0 < L j)
    (hg : (wx.alloc o).grownBy w1 v.ownBlock) (ho : w1.ownsRow w.heap.size 47 2 v' n (rcells L rs ++ [.slice (some ⟨bp, 0, none⟩) (L j) (L j), .int .i64 (pre L (j + 1))])) (hn : n = rs.length + 1) :
    Lst w (w1.setCell ⟨w.heap.size, 0, none⟩ v') L Z (j + 1) v' x (rs ++ [(bp, j)]) ∧ w1.cell? ⟨w.heap.size, 0, none⟩ = some v ∧ w1.frozen? ⟨w.heap.size, 0, none⟩ = false := by
  subst hn
  have hrow := h.row.alloc o
  have hv1 := (h.var.alloc o).grown hg (owns_ne hrow (h.var.alloc o) (by decide))
  have hsz : w.heap.size ≤ (wx.alloc o).heap.size := by have := h.bel.size; simp; omega
  have keep : ∀ b c, Blk wx b c 45 → Blk (w1.setCell ⟨w.heap.size, 0, none⟩ v') b c 45 := fun b c hb => ((hb.alloc o).grown hg (owns_ne hrow (hb.alloc o) (by decide))).setOther (((hb.alloc o).grown hg (owns_ne hrow (hb.alloc o) (by decide))).ne hv1 (by decide)) _
  refine ⟨⟨?_, by simpa using hv1.set 0 v', ?_, ?_, ?_⟩, hv1.cell (by rfl), hv1.frozen 0⟩
  · exact ((h.bel.alloc h.bel.size o).grown hg hsz (fun k hk => (h.row.lt k hk).1)).setCell (Nat.le_refl _) _
  · rw [rcells_append]
    have := ownsRow_setCell_other ho (a := ⟨w.heap.size, 0, none⟩) (owns_ne ho hv1 (by decide)) v'
    simpa using this
  · rw [List.map_append, h.idx, ne_succ, if_pos h0]; rfl
  · intro y hy
    rcases List.mem_append.1 hy with hy | hy
    · exact ⟨(h.ps y hy).1.keep (keep _), (h.ps y hy).2⟩
    · simp at hy; subst hy
      exact ⟨hp.keep (keep _), hbp⟩
/-- The list is made: what lies in memory of it. -/
structure Made (w W : World) (L : Nat → Nat) (Z : Nat → Nat → Int) (n br cc K : Nat) (b : Nat → Nat) : Prop where
  bel : Below w.heap.size w W
  var : Blk W w.heap.size #[.slice (some ⟨br, 0, none⟩) K cc, .int .i64 (pre L n)] 42
  runs : Runs W br K b (fun k => L ((ne L n).getD k 0)) (fun k => pre L ((ne L n).getD k 0 + 1))
  ps : ∀ k, k < K → Ps W L Z (b k) ((ne L n).getD k 0)
  len : K = (ne L n).length
theorem Lst.done {w W : World} {L : Nat → Nat} {Z : Nat → Nat → Int} {n : Nat} {v : Value} {rs : List (Nat × Nat)} (h : Lst w W L Z n v 0 rs) (hp : 0 < pre L n) :
    ∃ br cc K b, v = .slice (some ⟨br, 0, none⟩) K cc ∧ Made w (W.setCell ⟨w.heap.size, 1, none⟩ (.int .i64 (pre L n))) L Z n br cc K b := by
  have hl : rs.length = (ne L n).length := by rw [← h.idx]; simp
  have hpos : 0 < rs.length := by
    rcases Nat.eq_zero_or_pos rs.length with h0 | h0
    · rw [hl] at h0
      have := pre_ne L n
      rw [List.eq_nil_of_length_eq_zero h0] at this
      simp at this
      omega
    · exact h0
  rcases h.row.2 with ⟨_, h0⟩ | ⟨br, cc, cur, rfl, hbr, hcur, h1, h2, h3, h4⟩
  · omega
  have hne : br ≠ w.heap.size := (show Blk W br cur 47 from hcur).ne h.var (by decide)
  have hkeep : ∀ bb o v', bb ≠ w.heap.size → W.cell? ⟨bb, o, none⟩ = some v' → (W.setCell ⟨w.heap.size, 1, none⟩ (.int .i64 (pre L n))).cell? ⟨bb, o, none⟩ = some v' := fun bb o v' hb hc => (World.cell?_of_block (a := ⟨bb, o, none⟩) (Below.heap_setCell _ _ _ _ (by simpa using hb))).trans hc
  have hat : ∀ k, k < rs.length → ∃ x, rs[k]? = some x ∧ x.2 = (ne L n).getD k 0 ∧ (rs.getD k (0, 0)) = x := by
    intro k hk
    refine ⟨rs[k], List.getElem?_eq_getElem hk, ?_, by simp [List.getD, hk]⟩
    rw [← h.idx]
    simp [List.getD, hk]
  refine ⟨br, cc, rs.length, fun k => (rs.getD k (0, 0)).1, rfl, ⟨h.bel.setCell (Nat.le_refl _) _, by simpa using h.var.set 1 (.int .i64 (pre L n)), ⟨fun k hk => ?_, fun k hk => ?_⟩, fun k hk => ?_, hl⟩⟩
  · obtain ⟨x, hx, e2, e3⟩ := hat k hk
    refine hkeep _ _ _ hne ?_
    rw [h.row.cellAt (k * 2) (by omega), (rcells_at L rs k x hx).1]
    simp only [e3, ← e2]
  · obtain ⟨x, hx, e2, e3⟩ := hat k hk
    refine hkeep _ _ _ hne ?_
    rw [h.row.cellAt (k * 2 + 1) (by omega), (rcells_at L rs k x hx).2]
    simp only [← e2]
  · obtain ⟨x, hx, e2, e3⟩ := hat k hk
    have hp' := (h.ps x (List.mem_of_getElem? hx)).1
    simp only [e3]
    rw [← e2]
    exact hp'.keep fun c hc => hc.setOther (hc.ne h.var (by decide)) _
theorem idx_of (i : Int) (e : Nat) (h : 0 < e) (h2 : e ≤ 1048576) : ∃ idx : Nat, wrap64 ((IntKind.u64.wrap i).tmod (e : Int)) = (idx : Int) ∧ idx < e := by
  have h0 : 0 ≤ IntKind.u64.wrap i := by rw [IntKind.wrap_u64]; omega
  rw [Int.tmod_eq_emod_of_nonneg h0]
  have h1 := Int.emod_nonneg (IntKind.u64.wrap i) (show (e : Int) ≠ 0 by omega)
  have h3 := Int.emod_lt_of_pos (IntKind.u64.wrap i) (show (0 : Int) < e by omega)
  generalize IntKind.u64.wrap i % (e : Int) = x at *
  refine ⟨x.toNat, ?_, by omega⟩
  unfold wrap64
  omega
theorem ne_get {L : Nat → Nat} {n k : Nat} (h : k < (ne L n).length) : (ne L n)[k]? = some ((ne L n).getD k 0) := by
  simp [List.getD, h]
/-- The place of run r among those that are not empty. -/
theorem ne_place {L : Nat → Nat} {n r : Nat} (hr : r < n) (h0 : 0 < L r) : (ne L r).length < (ne L n).length ∧ (ne L n).getD (ne L r).length 0 = r := by
  have key : ∀ m, r < m → (ne L m)[(ne L r).length]? = some r := by
    intro m hm
    induction m with
    | zero => omega
    | succ m ih =>
      rw [ne_succ]
      by_cases e : r = m
      · subst e
        rw [List.getElem?_append_right (Nat.le_refl _), if_pos h0]
        simp
      · have := ih (by omega)
        rw [List.getElem?_append_left (List.getElem?_eq_some_iff.1 this).1]
        exact this
  have h := key n hr
  exact ⟨(List.getElem?_eq_some_iff.1 h).1, by simp [List.getD, h]⟩
theorem st_mono (L : Nat → Nat) (n : Nat) : ∀ {a b : Nat}, a ≤ b → st L n a ≤ st L n b := by
  intro a b h
  induction h with
  | refl => exact Nat.le_refl _
  | @step m _ ih =>
    refine Nat.le_trans ih ?_
    unfold st
    rw [List.take_add_one, List.map_append, List.sum_append]
    omega
theorem Made.below {w W W' : World} {L : Nat → Nat} {Z : Nat → Nat → Int} {n br cc K : Nat} {b : Nat → Nat} (h : Made w W L Z n br cc K b) (hb : Below W.heap.size W W') : Made w W' L Z n br cc K b :=
  ⟨h.bel.trans (hb.mono h.bel.size), h.var.below hb h.var.lt, h.runs.below hb, fun k hk => (h.ps k hk).keep fun c hc => hc.below hb hc.lt, h.len⟩
set_option maxRecDepth 100000 in
set_option maxHeartbeats 20000000 in
theorem whole_walk (a0 : Option Addr) (n cap0 : Nat) (A : Nat → Option Addr) (L C : Nat → Nat) (Z : Nat → Nat → Int) (i : Int) (w : World) (r0 : CameRows w a0 n A L C Z) (hn : n ≤ 140737488351232) (hL : ∀ r, L r ≤ 140737488351232) (hi : -9223372036854775808 ≤ i ∧ i ≤ 9223372036854775807) :
    Calls Yba.prog 4 #[.slice a0 n cap0, .int .i64 i] w fun e w' => e = .returned (.bool true) ∧ Below w.heap.size w w' := by
  have R0 : Hid (CameRows w a0 n A L C Z) := r0
  have HL : Hid (∀ r, L r ≤ 140737488351232) := hL
  obtain ⟨hi0, hi1⟩ := hi
  clear r0 hL
  go_enter Yba.func4, Yba.ntmps4
  go_wp2_with fail
  go_loopg [5, 32] n (fun g t x wr => ∃ j : Nat, g = n - j ∧ j ≤ n ∧ x = .int .i64 j ∧ t = .int .i64 (pre L j) ∧ pre L j ≤ 1048576 ∧ w = wr)
  case atStart => exact ⟨0, rfl, Nat.zero_le _, rfl, rfl, by simp [pre], rfl⟩
  case round =>
    obtain ⟨j, hg, hj, rfl, rfl, hpj, hwr⟩ := hrel
    subst hwr
    have HG : Hid (gk = n - j) := hg
    clear hg
    by_cases hlt : j < n
    ·
      as_aux_lemma =>
        obtain ⟨b, off, rfl, hb, hc⟩ := R0.out (by omega)
        have c1 := (hc j hlt).1
        have hlj := HL.out j
        have HP : Hid (pre L (j + 1) = pre L j + L j) := rfl
        generalize pre L j = pj at *
        generalize L j = lj at *
        clear hc
        by_cases hbig : 1048576 < pj + lj
        · go_wp2_with fail
          go_ret
          exact ⟨rfl, Below.refl _ _⟩
        · go_wp2_with fail
          go_roundg (n - (j + 1))
          case measure => have := HG.out; omega
          case rel => exact ⟨j + 1, rfl, by omega, by go_num, by rw [HP.out]; go_num, by rw [HP.out]; omega, rfl⟩
    · obtain rfl : n = j := by omega
      clear hj HG
      as_aux_lemma =>
        go_wp2_with fail
        go_loopg [9, 45] n (fun g t x wx => ∃ (j : Nat) (v : Value) (rs : List (Nat × Nat)), g = n - j ∧ j ≤ n ∧ x = .int .i64 j ∧ t = .int .i64 (pre L j) ∧ Lst w wx L Z j v 0 rs)
        case atStart => exact ⟨0, _, [], rfl, Nat.zero_le _, rfl, rfl, (Below.refl _ _).alloc (Nat.le_refl _) _, Blk.new _ _ _, World.ownsRow_nil _ _ _ _, rfl, fun y hy => by simp at hy⟩
        case round =>
          obtain ⟨j, v, rs, hg, hj, rfl, rfl, hls⟩ := hrel
          have HG : Hid (gk = n - j) := hg
          have HS : Hid (Lst w wr L Z j v 0 rs) := hls
          have hvar := hls.var.cell (i := 0) (v := v) (by rfl)
          have hpm := pre_mono L hj
          have hwz : w.heap.size < wr.heap.size := hls.var.lt
          clear hg
          by_cases hlt : j < n
          ·
            as_aux_lemma =>
              obtain ⟨b, off, rfl, hb, hc⟩ := R0.out (by omega)
              have c1 := (hls.bel.cell (by exact hb)).trans (hc j hlt).1
              have hpm1 : pre L j + L j ≤ pre L n := pre_mono L (show j + 1 ≤ n by omega)
              by_cases h0 : L j = 0
              · have q : ((L j : Int) == 0) = true := by simp [h0]
                have HP : Hid (pre L (j + 1) = pre L j ∧ L j = 0) := ⟨by show pre L j + L j = _; omega, h0⟩
                clear hls hc h0
                go_wp2_with fail
                go_roundg (n - (j + 1))
                case measure => have := HG.out; omega
                case rel => exact ⟨j + 1, v, rs, rfl, by omega, by go_num, by rw [HP.out.1], HS.out.skip HP.out.2⟩
              · have q : ((L j : Int) == 0) = false := by simp; omega
                obtain ⟨b', off', hA, hb', hc'⟩ := (hc j hlt).2 (by omega)
                rw [hA] at c1
                have mk := make_ps (L j) (by omega)
                have HC : Hid (∀ c, c < L j → w.cell? ⟨b', off' + c, none⟩ = some (.int .u64 (Z j c))) := hc'
                have HP : Hid (0 < L j ∧ pre L (j + 1) = pre L j + L j) := ⟨by omega, rfl⟩
                have hrl : rs.length ≤ 1048576 := by
                  have h1 : rs.length = (ne L j).length := by rw [← hls.idx]; simp
                  have h2 := ne_len_pre L j
                  omega
                clear hls hc hc' h0 hA
                generalize hLj : L j = lj at *
                have HJ : Hid (L j = lj) := hLj
                clear hLj
                go_wp2_with fail
                clear mk
                obtain ⟨W1, hW1⟩ : ∃ W, W = wr := ⟨_, rfl⟩
                subst hW1
                go_loopg [57] lj (fun g x wx => ∃ m : Nat, g = lj - m ∧ m ≤ lj ∧ x = .int .i64 m ∧ Below W1.heap.size W1 wx ∧ ∃ c, Blk wx W1.heap.size c 45 ∧ c.size = lj * 3 ∧ FillP c m (Z j))
                case atStart => exact ⟨0, rfl, Nat.zero_le _, rfl, (Below.refl _ _).alloc (Nat.le_refl _) _, _, Blk.new _ _ _, size_madeCells _ _, fun m hm => absurd hm (by omega)⟩
                case round =>
                  obtain ⟨m, hg, hm, rfl, hbel, c, hbk, hcs, hcf⟩ := hrel
                  have HG2 : Hid (gk = lj - m) := hg
                  clear hg
                  by_cases hlt2 : m < lj
                  ·
                    as_aux_lemma =>
                      obtain ⟨⟨x0, e0⟩, g0⟩ := hbk.at (i := m * 3) (by omega)
                      obtain ⟨⟨x1, e1⟩, g1⟩ := hbk.at (i := m * 3 + 1) (by omega)
                      obtain ⟨⟨x2, e2⟩, g2⟩ := hbk.at (i := m * 3 + 2) (by omega)
                      have cx : wr.cell? ⟨b', off' + m, none⟩ = some (.int .u64 (Z j m)) := ((hbel.cell (show b' < W1.heap.size by omega)).trans (HS.out.bel.cell (by exact hb'))).trans (HC.out m hlt2)
                      have HB : Hid (Below W1.heap.size W1 wr ∧ Blk wr W1.heap.size c 45 ∧ c.size = lj * 3 ∧ FillP c m (Z j)) := ⟨hbel, hbk, hcs, hcf⟩
                      clear hbel hbk hcs hcf
                      go_wp2_with fail
                      obtain ⟨hbel, hbk, hcs, hcf⟩ := HB.out
                      go_roundg (lj - (m + 1))
                      case measure => have := HG2.out; omega
                      case rel => exact ⟨m + 1, rfl, by omega, by go_num, ((hbel.setCell (Nat.le_refl _) _).setCell (Nat.le_refl _) _).setCell (Nat.le_refl _) _, _, ((hbk.set _ _).set _ _).set _ _, by simpa using hcs, hcf.step hcs hlt2 rfl⟩
                  · obtain rfl : lj = m := by omega
                    have hls2 := HS.out.below hbel
                    have hps : Ps wr L Z W1.heap.size j := ⟨c, hbk, by rw [HJ.out]; exact hcs, by rw [HJ.out]; exact hcf⟩
                    obtain ⟨ao, cc, rfl⟩ := owns_shape hls2.row
                    have hvar2 := hls2.var.cell (i := 0) (v := .slice ao rs.length cc) (by rfl)
                    obtain ⟨i0, hi0', hz0, hz1, hz2⟩ := info_parts Yba.info47
                    have HO := fun o => hls2.row.alloc o
                    have hwz2 : w.heap.size < wr.heap.size := hls2.var.lt
                    have H2 : Hid (Lst w wr L Z j (.slice ao rs.length cc) 0 rs ∧ Ps wr L Z W1.heap.size j) := ⟨hls2, hps⟩
                    clear hls2 hps hbel hbk hcs hcf hvar hm
                    as_aux_lemma =>
                      go_wp2_with (at_builtin; go_loud (refine wpList_append_own _ rfl (.tmp 73) (.tmp 77) 40 rfl w.heap.size 47 i0 (.agg #[.slice none 0 0, .int .i64 0]) 2 32 Yba.underlying40 hi0' hz0 hz1 hz2 rfl (by decide) _ rs.length (rcells L rs) rfl (HO _) _ 1 1 [.slice (some ⟨W1.heap.size, 0, none⟩) lj lj, .int .i64 ((pre L j : Nat) + (lj : Nat))] rfl rfl ?c1 ?c2 ?c3 ?c4 ?c5 ?_))
                      case c1 => refine news_two ?_ ?_ <;> simp [go_sem]
                      case c2 => simp [Value.oneCell']
                      case c3 => unfold maxLen; omega
                      case c4 => omega
                      case c5 => simp; omega
                      · intro v' w1 hown1 hg1 _
                        obtain ⟨ao', cc', rfl⟩ := owns_shape hown1
                        have hpe : ((pre L j : Nat) : Int) + ((lj : Nat) : Int) = ((pre L (j + 1) : Nat) : Int) := by have := HP.out.2; omega
                        rw [hpe] at hown1
                        obtain ⟨r1, r2, r3⟩ := H2.out.1.pushed H2.out.2 (by omega) (by rw [HJ.out]; exact HP.out.1) hg1 (by rw [HJ.out]; exact hown1) rfl
                        have HR : Hid (Lst w (w1.setCell ⟨w.heap.size, 0, none⟩ (.slice ao' (rs.length + 1) cc')) L Z (j + 1) (.slice ao' (rs.length + 1) cc') 0 (rs ++ [(W1.heap.size, j)])) := r1
                        have HPE : Hid (((pre L j : Nat) : Int) + ((lj : Nat) : Int) = ((pre L (j + 1) : Nat) : Int)) := hpe
                        clear HO hown1 hg1 r1 hpe hi0' hz0 hz1 hz2
                        go_wp2_with fail
                        go_roundg (n - (j + 1))
                        case measure => have := HG.out; omega
                        case rel => exact ⟨j + 1, _, _, rfl, by omega, by go_num, by rw [HPE.out], HR.out⟩
          · obtain rfl : n = j := by omega
            obtain ⟨W2, hW2⟩ : ∃ W, W = wr := ⟨_, rfl⟩
            subst hW2
            have hv1 := hls.var.cell (i := 1) (v := .int .i64 0) (by rfl)
            have hf1 := hls.var.frozen 1
            clear hj HG hlt hpm
            by_cases hz : pre L n = 0
            · have q : ((pre L n : Int) == 0) = true := by simp [hz]
              clear hls hz
              go_wp2_with fail
              go_ret
              exact ⟨rfl, HS.out.bel.setCell (Nat.le_refl _) _⟩
            · have q : ((pre L n : Int) == 0) = false := by simp; omega
              obtain ⟨br, cc, K, b, rfl, hmade⟩ := hls.done (by omega)
              have HM : Hid (Made w (W2.setCell ⟨w.heap.size, 1, none⟩ (.int .i64 (pre L n))) L Z n br cc K b) := hmade
              have hpos : 0 < pre L n := by omega
              have hKb : K ≤ 1048576 := by have := hmade.len; have := ne_len_pre L n; omega
              clear hls hmade HS hvar hz
              as_aux_lemma =>
                go_wp2_with fail
                obtain ⟨idx, hidx, hidl⟩ := idx_of i (pre L n) hpos hpj
                simp only [hidx]
                clear hidx hv1 hf1
                generalize W2.setCell ⟨w.heap.size, 1, none⟩ (.int .i64 (pre L n)) = W3 at *
                have hcv := HM.out.var.cell (i := 0) (v := .slice (some ⟨br, 0, none⟩) K cc) (by rfl)
                have hcn := HM.out.var.cell (i := 1) (v := .int .i64 (pre L n)) (by rfl)
                go_loopg [16, 17] K (fun g x y wr => ∃ k : Nat, g = K - k ∧ k ≤ K ∧ x = .int .i64 k ∧ y = .int .i64 ((idx - st L n k : Nat) : Int) ∧ st L n k ≤ idx ∧ W3 = wr)
                case atStart => exact ⟨0, rfl, Nat.zero_le _, rfl, by rw [st_zero]; rfl, by rw [st_zero]; exact Nat.zero_le _, rfl⟩
                case round =>
                  obtain ⟨k, hg, hk, rfl, rfl, hst, hwr⟩ := hrel
                  subst hwr
                  have HG : Hid (gk = K - k) := hg
                  clear hg
                  have hkK : k < K := by
                    rcases Nat.lt_or_ge k K with h | h
                    · exact h
                    · have := st_all L n
                      rw [← HM.out.len, show K = k by omega] at this
                      omega
                  have hnk := ne_get (show k < (ne L n).length by rw [← HM.out.len]; exact hkK)
                  obtain ⟨s1, s2⟩ := st_at hnk
                  obtain ⟨t1, t2, _⟩ := ne_at hnk
                  have d1 := HM.out.runs.pieces k hkK
                  have HQ : Hid (st L n k = pre L ((ne L n).getD k 0) ∧ st L n (k + 1) = pre L ((ne L n).getD k 0) + L ((ne L n).getD k 0) ∧ (ne L n)[k]? = some ((ne L n).getD k 0)) := ⟨s1, s2, hnk⟩
                  clear s1 s2 hnk hk
                  generalize hrk : (ne L n).getD k 0 = r at *
                  have HRK : Hid ((ne L n).getD k 0 = r) := hrk
                  clear hrk
                  by_cases hge : L r ≤ idx - st L n k
                  ·
                    as_aux_lemma =>
                      have q1 : decide (k < K) = true := by simpa using hkK
                      have q2 : decide (L r ≤ idx - st L n k) = true := by simpa using hge
                      obtain ⟨f, hf⟩ : ∃ f, f = idx - st L n k := ⟨_, rfl⟩
                      have HF : Hid (f = idx - st L n k) := hf
                      have hfb : f ≤ 1048576 := by omega
                      rw [← hf] at hge q2 ⊢
                      generalize hlr : L r = lr at *
                      have HLR : Hid (L r = lr) := hlr
                      clear hf hlr
                      go_wp2_with fail
                      go_roundg (K - (k + 1))
                      case measure => have := HG.out; omega
                      case rel =>
                        have h1 := HQ.out.2.1
                        have h2 := HQ.out.1
                        have h3 := HF.out
                        have h4 := HLR.out
                        have e : idx - st L n (k + 1) = f - lr := by omega
                        exact ⟨k + 1, rfl, by omega, by go_num, by rw [e]; go_num, by omega, rfl⟩
                  · have q1 : decide (k < K) = true := by simpa using hkK
                    have q2 : decide (L r ≤ idx - st L n k) = false := by simpa using hge
                    as_aux_lemma =>
                      obtain ⟨f, hf⟩ : ∃ f, f = idx - st L n k := ⟨_, rfl⟩
                      have HF : Hid (f = idx - st L n k) := hf
                      rw [← hf] at hge q2 ⊢
                      have hfr : f < L r := by omega
                      clear hf HG
                      go_wp2_with fail
                      go_loopg [19, 20, 135] n (fun g sq x y wr => ∃ t : Nat, g = n - t ∧ t ≤ n ∧ y = .int .i64 t ∧ x = .int .i64 ((idx - pre L t : Nat) : Int) ∧ pre L t ≤ idx ∧ W3 = wr)
                      case atStart => exact ⟨0, rfl, Nat.zero_le _, rfl, by simp [pre], by simp [pre], rfl⟩
                      case round =>
                        obtain ⟨t, hg, ht, rfl, rfl, hpt, hwr⟩ := hrel
                        subst hwr
                        have HG : Hid (gk = n - t) := hg
                        clear hg
                        have htn : t < n := by
                          rcases Nat.lt_or_ge t n with h | h
                          · exact h
                          · rw [show t = n by omega] at hpt; omega
                        obtain ⟨b5, off5, rfl, hb5, hc5⟩ := R0.out (by omega)
                        have c5 := (HM.out.bel.cell (by exact hb5)).trans (hc5 t htn).1
                        have hlt5 := HL.out t
                        by_cases hin : idx - pre L t < L t
                        · obtain ⟨b6, off6, hA6, hb6, hc6⟩ := (hc5 t htn).2 (by omega)
                          have c6 := (HM.out.bel.cell (by exact hb6)).trans (hc6 (idx - pre L t) hin)
                          rw [hA6] at c5
                          have htr : t = r := by
                            have h1 := HQ.out.1
                            have h2 := HQ.out.2.1
                            have h3 := HF.out
                            exact pre_uniq (L := L) hpt (by show idx < pre L t + L t; omega) (by omega) (by show idx < pre L r + L r; omega)
                          subst htr
                          have hft : f = idx - pre L t := by rw [← HQ.out.1]; exact HF.out
                          rw [← hft] at c6 hin ⊢
                          have hft' := hft
                          clear hc5 hc6 hpt ht hft HG hA6
                          have hat := at_any br K cc k idx (pre L n) b (fun k => L ((ne L n).getD k 0)) (fun k => pre L ((ne L n).getD k 0 + 1)) W3 HM.out.runs (by omega) hkK (fun r' hr' => by
                              have g1 := st_at (ne_get (show r' < (ne L n).length by rw [← HM.out.len]; omega))
                              have g2 := st_mono L n (show r' + 1 ≤ k by omega)
                              have g3 := HF.out
                              rw [← g1.2]; omega) (fun r' hr' hr2 => by
                              have g1 := st_at (ne_get (show r' < (ne L n).length by rw [← HM.out.len]; omega))
                              have g2 := st_mono L n (show k + 1 ≤ r' + 1 by omega)
                              have g3 := HF.out
                              have g4 := HQ.out.2.1
                              have g5 := HQ.out.1
                              rw [← g1.2]; omega) (Nat.le_add_left _ _) (by have g3 := HF.out; have g5 := HQ.out.1; rw [HRK.out]; show pre L t + L t ≤ _; omega) (by rw [HRK.out]; have := pre_mono L (show t + 1 ≤ n by omega); omega) (by
                              have g1 := st_at (ne_get (show 0 < (ne L n).length by rw [← HM.out.len]; omega))
                              rw [st_zero] at g1
                              show pre L _ + L _ = _
                              omega)
                          rw [show (fun k => pre L ((ne L n).getD k 0 + 1)) k - (fun k => L ((ne L n).getD k 0)) k = pre L t by rw [show (fun k => L ((ne L n).getD k 0)) k = L t by rw [← HRK.out], show (fun k => pre L ((ne L n).getD k 0 + 1)) k = pre L t + L t by show pre L ((ne L n).getD k 0 + 1) = _; rw [HRK.out]; rfl]; omega, ← hft'] at hat
                          have HAT : Hid (Calls Yba.prog 10 #[.agg #[.slice (some ⟨br, 0, none⟩) K cc, .int .i64 (pre L n)], .int .i64 idx] W3 fun e w' => e = .returned (.pointer (some ⟨b k, f * 3, none⟩)) ∧ Below W3.heap.size W3 w') := hat
                          clear hat hft'
                          as_aux_lemma =>
                            go_wp2_with fail
                            refine HAT.out.mono ?_
                            rintro e W4 ⟨rfl, hb4⟩
                            have HM4 : Hid (Made w W4 L Z n br cc K b) := HM.out.below hb4
                            obtain ⟨cp, hp1, hp2, hp3⟩ := HM4.out.ps k hkK
                            rw [HRK.out] at hp2 hp3
                            obtain ⟨u1, u2, u3⟩ := hp3 f hfr
                            have p1 := hp1.cell u1
                            have p2 := hp1.cell u2
                            have p3 := hp1.cell u3
                            obtain ⟨j45, hj45⟩ : ∃ j, Yba.prog.info? 45 = some j := by
                              obtain ⟨j, hj, _⟩ := info_parts Yba.info45
                              exact ⟨j, hj⟩
                            have hpp := fun wz a => Lib.run_neq_ptr_same (P := Yba.prog) wz (tp := 48) a Yba.underlying48 hj45
                            have hnn := fun wz => run_neq_slice_nil_any (P := Yba.prog) wz 31 5 none 0 0 0 0 Yba.underlying31
                            have hcv4 := HM4.out.var.cell (i := 0) (v := .slice (some ⟨br, 0, none⟩) K cc) (by rfl)
                            have hcn4 := HM4.out.var.cell (i := 1) (v := .int .i64 (pre L n)) (by rfl)
                            generalize b k = bk at *
                            clear hb4 hp1 hp2 hp3 u1 u2 u3 hj45 HAT hcv hcn d1 c5 c6 HM
                            go_wp2_with fail
                            clear hpp p1 p2 p3
                            go_loopg [24, 180] n (fun g x y wr => ∃ t : Nat, g = n - t ∧ t ≤ n ∧ y = .int .i64 t ∧ x = .int .i64 ((ne L t).length : Nat) ∧ W4 = wr)
                            case atStart => exact ⟨0, rfl, Nat.zero_le _, rfl, by simp [ne], rfl⟩
                            case round =>
                              obtain ⟨z, hg, hz, rfl, rfl, hwr⟩ := hrel
                              subst hwr
                              have HG : Hid (gk = n - z) := hg
                              clear hg
                              by_cases hzn : z < n
                              ·
                                as_aux_lemma =>
                                  obtain ⟨b7, off7, e7, hb7, hc7⟩ := R0.out (by omega)
                                  simp only [Option.some.injEq, Addr.mk.injEq, and_true] at e7
                                  obtain ⟨rfl, rfl⟩ := e7
                                  have c7 := (HM4.out.bel.cell (by exact hb7)).trans (hc7 z hzn).1
                                  have hl7 := HL.out z
                                  have hnl := ne_le L z
                                  by_cases h0 : L z = 0
                                  · have q : ((L z : Int) == 0) = true := by simp [h0]
                                    have HN : Hid ((ne L (z + 1)).length = (ne L z).length) := by rw [ne_succ, if_neg (by omega), List.append_nil]; rfl
                                    clear hc7 h0
                                    go_wp2_with fail
                                    go_roundg (n - (z + 1))
                                    case measure => have := HG.out; omega
                                    case rel => exact ⟨z + 1, rfl, by omega, by go_num, by rw [HN.out], rfl⟩
                                  · have q : ((L z : Int) == 0) = false := by simp; omega
                                    obtain ⟨b8, off8, hA8, hb8, hc8⟩ := (hc7 z hzn).2 (by omega)
                                    rw [hA8] at c7
                                    obtain ⟨pl1, pl2⟩ := ne_place hzn (show 0 < L z by omega)
                                    rw [← HM4.out.len] at pl1
                                    have d7 := HM4.out.runs.pieces (ne L z).length pl1
                                    simp only [pl2] at d7
                                    obtain ⟨cq, hq1, hq2, hq3⟩ := HM4.out.ps (ne L z).length pl1
                                    rw [pl2] at hq2 hq3
                                    have HN : Hid ((ne L (z + 1)).length = (ne L z).length + 1) := by rw [ne_succ, if_pos (by omega)]; simp [Hid]
                                    have HC8 : Hid ((∀ c, c < L z → w.cell? ⟨b8, off8 + c, none⟩ = some (.int .u64 (Z z c))) ∧ Blk W4 (b (ne L z).length) cq 45 ∧ FillP cq (L z) (Z z)) := ⟨hc8, hq1, hq3⟩
                                    generalize b (ne L z).length = bq at *
                                    generalize (ne L z).length = kz at *
                                    clear hc7 hc8 hq1 hq2 hq3 pl2 h0 hA8
                                    go_wp2_with fail
                                    go_loopg [200] (L z) (fun g y wr => ∃ m : Nat, g = L z - m ∧ m ≤ L z ∧ y = .int .i64 m ∧ W4 = wr)
                                    case atStart => exact ⟨0, rfl, Nat.zero_le _, rfl, rfl⟩
                                    case round =>
                                      obtain ⟨m, hg, hm, rfl, hwr⟩ := hrel
                                      subst hwr
                                      have HG7 : Hid (gk = L z - m) := hg
                                      clear hg
                                      by_cases hmz : m < L z
                                      · have c9 := (HM4.out.bel.cell (by exact hb8)).trans (HC8.out.1 m hmz)
                                        obtain ⟨u1, u2, u3⟩ := HC8.out.2.2 m hmz
                                        have p1 := HC8.out.2.1.cell u1
                                        have p2 := HC8.out.2.1.cell u2
                                        have p3 := HC8.out.2.1.cell u3
                                        clear u1 u2 u3
                                        go_wp2_with fail
                                        go_roundg (L z - (m + 1))
                                        case measure => have := HG7.out; omega
                                        case rel => exact ⟨m + 1, rfl, by omega, by go_num, rfl⟩
                                      · go_wp2_with fail
                                        go_roundg (n - (z + 1))
                                        case measure => have := HG.out; omega
                                        case rel => exact ⟨z + 1, rfl, by omega, by go_num, by rw [HN.out]; go_num, rfl⟩
                              · obtain rfl : n = z := by omega
                                have hkl : (ne L n).length = K := HM4.out.len.symm
                                rw [hkl]
                                clear hkl
                                go_wp2_with fail
                                go_ret
                                exact ⟨rfl, HM4.out.bel⟩
                        ·
                          as_aux_lemma =>
                            have HPP : Hid (pre L (t + 1) = pre L t + L t) := rfl
                            obtain ⟨f2, hf2⟩ : ∃ f2, f2 = idx - pre L t := ⟨_, rfl⟩
                            have hfb2 : f2 ≤ 1048576 := by omega
                            rw [← hf2] at hin ⊢
                            have HF2 : Hid (f2 = idx - pre L t) := hf2
                            clear hf2 hc5
                            generalize hlt' : L t = lt at *
                            have HLT : Hid (L t = lt) := hlt'
                            clear hlt'
                            go_wp2_with fail
                            go_roundg (n - (t + 1))
                            case measure => have := HG.out; omega
                            case rel =>
                              have h1 := HPP.out
                              have h2 := HF2.out
                              have h3 := HLT.out
                              have e : idx - pre L (t + 1) = f2 - lt := by omega
                              exact ⟨t + 1, rfl, by omega, by go_num, by rw [e]; go_num, by omega, rfl⟩
end Go.Proofs.Ybulkdkos
