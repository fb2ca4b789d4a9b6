/-
  (*viewSearch).prune: its contract, at a heap with elements and at an empty one.
-/
import Derived.Test.YbulkdknqKeep
import Derived.Test.YbulkdknqShelf
import Derived.Test.YbulkdknqPure
import Derived.Sort.OwnSortedInts
namespace Go.Proofs.Ybulkdknq
open Go.ChangeShapes Go.WideShapes Go.ChangeAt Go.RowKit Go.Sort
set_option linter.unusedVariables false
/-- w' is w but for the blocks that ok lets go of, and for new ones. -/
structure Only (ok : Nat → Prop) (w w' : World) : Prop where
  os : w'.os = w.os
  tape : w'.tape = w.tape
  output : w'.output = w.output
  size : w.heap.size ≤ w'.heap.size
  block : ∀ k, k < w.heap.size → ¬ ok k → w'.heap[k]? = w.heap[k]?
theorem Only.refl (ok : Nat → Prop) (w : World) : Only ok w w := ⟨rfl, rfl, rfl, Nat.le_refl _, fun _ _ _ => rfl⟩
theorem Only.trans {ok : Nat → Prop} {a b c : World} (h : Only ok a b) (k : Only ok b c) : Only ok a c :=
  ⟨k.os.trans h.os, k.tape.trans h.tape, k.output.trans h.output, Nat.le_trans h.size k.size, fun i hi hn => (k.block i (Nat.lt_of_lt_of_le hi h.size) hn).trans (h.block i hi hn)⟩
theorem Only.weak {ok ok' : Nat → Prop} {a b : World} (h : Only ok a b) (hk : ∀ k, ok k → ok' k) : Only ok' a b := ⟨h.os, h.tape, h.output, h.size, fun i hi hn => h.block i hi (fun e => hn (hk i e))⟩
theorem Only.drew {ok : Nat → Prop} {a b : World} (h : Only ok a b) : Only ok a b.drew := ⟨h.os, h.tape, h.output, h.size, h.block⟩
theorem Only.drewN {ok : Nat → Prop} {a b : World} (h : Only ok a b) (n : Nat) : Only ok a (b.drewN n) := ⟨h.os, h.tape, h.output, h.size, h.block⟩
theorem Only.alloc {ok : Nat → Prop} {a b : World} (h : Only ok a b) (o : Obj) : Only ok a (b.alloc o) :=
  h.trans ⟨rfl, rfl, rfl, by simp, fun k hk _ => Below.heap_alloc _ _ _ hk⟩
theorem Only.setCell {ok : Nat → Prop} {a b : World} (h : Only ok a b) {p : Addr} (hp : ok p.block) (v : Value) : Only ok a (b.setCell p v) :=
  h.trans ⟨rfl, rfl, rfl, by simp [World.setCell], fun k _ hn => Below.heap_setCell _ _ _ _ (fun e => hn (e ▸ hp))⟩
theorem Only.setRow {ok : Nat → Prop} {a b : World} (h : Only ok a b) {g : Nat} (hp : ok g) (c : Array Value) : Only ok a (b.setRow g c) :=
  h.trans ⟨rfl, rfl, rfl, by simp [World.setRow], fun k _ hn => setRow_other _ _ _ _ (fun e => hn (e ▸ hp))⟩
theorem Only.blk {ok : Nat → Prop} {w w' : World} (h : Only ok w w') {b : Nat} {c : Array Value} {t : TypeId} (hb : Blk w b c t) (hn : ¬ ok b) : Blk w' b c t := by
  have := h.block b hb.lt hn
  unfold Blk at hb ⊢
  rw [this]; exact hb
theorem Only.row {ok : Nat → Prop} {w w' : World} (h : Only ok w w') {b : Nat} {t : TypeId} {n : Nat} {f : Nat → Value} (hb : Row w b t n f) (hn : ¬ ok b) : Row w' b t n f := by
  obtain ⟨c, h1, h2⟩ := hb
  exact ⟨c, h.blk h1 hn, h2⟩
/-- 'append(s, x)' where there is room: the cell behind the elements is written. -/
theorem wpList_append_one {P : Program} (w : World) {ops : Array Oper} {rest : List Oper} {o : Oper} {a : Act} {Q : Exit → Act → World → Prop}
    (hg : o.guard = none) (s x : Operand) (t : TypeId) (hop : o.op = Op.call { callee := Callee.builtin Builtin.append, args := #[s, x], argTypes := #[t, t] })
    (e : TypeId) (i : TypeInfo) (h1 : P.underlying t = some (.slice e)) (h2 : P.info? e = some i) (h4 : i.size = 1)
    (g k cap : Nat) (cur : Array Value) (hs : a.eval s = .slice (some ⟨g, 0, none⟩) k cap) (hb : Blk w g cur e) (ad : Addr) (u : Value) (hx : a.eval x = .slice (some ad) 1 1)
    (hu : ∀ j v, [u][j]? = some v → w.cell? (ad.add j) = some v) (h1c : u.oneCell' = true) (hroom : k + 1 ≤ cap) (hfit : k < cur.size)
    (hK : wpList P ops Q rest (a.put o.dst (.slice (some ⟨g, 0, none⟩) (k + 1) cap)) (w.setRow g (cur.setIfInBounds k u))) :
    wpList P ops Q (o :: rest) a w := by
  refine wpList_plain hg fun K hK' => ?_
  have hrun := run_append_room (P := P) w t o.type e i h1 h2 g k cap cur hb ad 1 1 [u] (by rw [h4]; rfl) hu (by simpa using h1c) hroom (by rw [h4]; simp; omega)
  have hc : (cur.toList.take (k * i.size) ++ [u] ++ cur.toList.drop (k * i.size + [u].length)).toArray = cur.setIfInBounds k u := by
    rw [h4, Nat.mul_one]
    apply Array.ext_getElem?
    intro j
    rw [Array.getElem?_setIfInBounds]
    simp only [List.getElem?_toArray, List.append_assoc, List.getElem?_append, List.length_take, Array.length_toList, List.getElem?_take, Array.getElem?_toList, List.length_cons, List.length_nil]
    by_cases hj : j < k
    · rw [if_pos (by omega), if_pos hj, if_neg (by omega)]
    · rw [if_neg (by omega)]
      by_cases hjk : j = k
      · subst hjk
        simp [Nat.min_eq_left (Nat.le_of_lt hfit), hfit]
      · rw [if_neg (by omega), if_neg (by omega)]
        rw [List.getElem?_drop]
        simp only [Array.getElem?_toList]
        congr 1
        omega
  rw [hc] at hrun
  unfold Oper.wp
  simp [execOp, hop, resolve, invoke, builtin, hs, hx, hrun, Result.andThen]
  exact hK' _ _ hK
theorem Blk.setRow {w : World} {b : Nat} {c c' : Array Value} {t : TypeId} (h : Blk w b c t) : Blk (w.setRow b c') b c' t := setRow_heap w b c c' t (0, 0) h
/-- The search's own words as prune reads them. -/
structure SearchAt (w : World) (bs bp bt ba bm bw nm nT nA : Nat) : Prop where
  p : w.cell? ⟨bs, 0, none⟩ = some (.pointer (some ⟨bp, 0, none⟩))
  mem : w.cell? ⟨bs, 8, none⟩ = some (.slice (some ⟨bm, 0, none⟩) nm nm)
  wat : w.cell? ⟨bs, 16, none⟩ = some (.slice (some ⟨bw, 0, none⟩) nT nT)
  at_ : w.cell? ⟨bp, 0, none⟩ = some (.pointer (some ⟨bt, 0, none⟩))
  all : w.cell? ⟨bt, 0, none⟩ = some (.slice (some ⟨ba, 0, none⟩) nA nA)
/-- Of the first i places of the heap those that are kept. -/
def kept (keep : Nat → Bool) (H : Nat → Int) (i : Nat) : List Int := ((List.range i).map H).filter fun z => keep z.toNat
theorem kept_succ (keep : Nat → Bool) (H : Nat → Int) (i : Nat) : kept keep H (i + 1) = kept keep H i ++ (if keep (H i).toNat = true then [H i] else []) := by
  unfold kept
  rw [List.range_succ, List.map_append, List.filter_append]
  by_cases h : keep (H i).toNat = true <;> simp [h]
theorem kept_le (keep : Nat → Bool) (H : Nat → Int) (i : Nat) : (kept keep H i).length ≤ i := by
  unfold kept
  refine Nat.le_trans (List.length_filter_le _ _) ?_
  simp
def AccAt (c : Array Value) (k : Nat) (O : Nat → Int) : Prop := ∀ j, j < k → c[j * 6 + 1]? = some (.int .i64 (O j))
theorem Only.cell {ok : Nat → Prop} {w w' : World} (h : Only ok w w') {b o : Nat} {v : Value} (hc : w.cell? ⟨b, o, none⟩ = some v) (hn : ¬ ok b) : w'.cell? ⟨b, o, none⟩ = some v :=
  (World.cell?_of_block (a := ⟨b, o, none⟩) (h.block b (cell_lt hc) hn)).trans hc
theorem only_grown {w w' : World} {g : Nat} (h : w.grownBy w' (some g)) : Only (fun k => k = g) w w' :=
  ⟨h.os, h.tape, h.output, h.size, fun k hk hn => h.block k hk (by simpa using hn)⟩
theorem only_put {w : World} {g q : Nat} (d : Array Int) : Only (fun k => k = g) w (putRow (Value.int .i64) (Sort.ahead w q) g 0 d) := by
  have := only_grown (grownBy_sortedI (w := w) (g := g) (n := q) (os := #[]) d)
  simpa using this
theorem Yba.info3 : (Yba.prog.info? 3).map (fun i => (i.zero, i.size, i.bytes)) = some (some (.int .i64 0), 1, 8) := by kernel_rfl
/-- What stands in the heap's row in the middle of the loop. -/
def MidRow (c : Array Value) (n i : Nat) (K : List Int) (H : Nat → Int) : Prop := c.size = n ∧ Upto c K.length (fun j => .int .i64 (K.getD j 0)) ∧ ∀ j, i ≤ j → j < n → c[j]? = some (.int .i64 (H j))
theorem MidRow.skip {c : Array Value} {n i : Nat} {K : List Int} {H : Nat → Int} (h : MidRow c n i K H) : MidRow c n (i + 1) K H := ⟨h.1, h.2.1, fun j hj hn => h.2.2 j (by omega) hn⟩
theorem MidRow.push {c : Array Value} {n i : Nat} {K : List Int} {H : Nat → Int} (h : MidRow c n i K H) (hk : K.length ≤ i) (hi : i < n) : MidRow (c.setIfInBounds K.length (.int .i64 (H i))) n (i + 1) (K ++ [H i]) H := by
  obtain ⟨h1, h2, h3⟩ := h
  refine ⟨by simpa using h1, ?_, fun j hj hn => ?_⟩
  · intro j hj
    simp at hj
    by_cases e : j = K.length
    · subst e
      rw [Array.getElem?_setIfInBounds, if_pos rfl, if_pos (by omega)]
      simp
    · rw [Array.getElem?_setIfInBounds, if_neg (by omega), h2 j (by omega)]
      simp [List.getD, List.getElem?_append, show j < K.length by omega]
  · rw [Array.getElem?_setIfInBounds, if_neg (by omega)]
    exact h3 j (by omega) hn
theorem take_upto {c : Array Value} {K : List Int} (h : Upto c K.length (fun j => .int .i64 (K.getD j 0))) : c.toList.take K.length = K.map (Value.int .i64) := by
  apply List.ext_getElem?
  intro j
  by_cases hj : j < K.length
  · rw [List.getElem?_take_of_lt hj, Array.getElem?_toList, h j hj]
    simp [List.getD, hj]
  · rw [List.getElem?_take_eq_none (by omega), List.getElem?_eq_none (by simp; omega)]
theorem put_cell {w : World} {g q : Nat} {c : Array Value} {ts : List Int} (hb : Blk w g c 3) (h : ts.length ≤ c.size) (j : Nat) (hj : j < ts.length) : (putRow (Value.int .i64) (Sort.ahead w q) g 0 ts.toArray).cell? ⟨g, j, none⟩ = some (.int .i64 (ts.getD j 0)) := by
  have hb2 : Blk (putRow (Value.int .i64) (Sort.ahead w q) g 0 ts.toArray) g (putCells (Value.int .i64) 0 ts.toArray c) 3 := by
    have := heap_sortedI (w := w) (g := g) (n := q) (os := #[]) ts.toArray hb
    simpa [Blk] using this
  refine hb2.cell ?_
  have := take_putCellsI c ts h
  have e : ((putCells (Value.int .i64) 0 ts.toArray c).toList.take ts.length)[j]? = (ts.map (Value.int .i64))[j]? := by rw [this]
  rw [List.getElem?_take_of_lt hj, Array.getElem?_toList] at e
  rw [e]
  simp [List.getD, hj]
theorem compact_le (d : Array Int) (m : Nat) : (Lib.compactUpTo d m).length ≤ m := by
  unfold Lib.compactUpTo
  rw [List.length_map]
  refine Nat.le_trans (List.length_filter_le _ _) ?_
  simp
set_option maxRecDepth 100000 in
set_option maxHeartbeats 1000000 in
theorem prune_pos (bs bp bt ba bm bw bv bh nm nT nA n : Nat) (M T O H : Nat → Int) (x : Int) (w : World)
    (hS : SearchAt w bs bp bt ba bm bw nm nT nA) (hM : Row w bm 3 nm (fun j => .int .i64 (M j))) (hT : Row w bw 3 nT (fun j => .int .i64 (T j))) (hA : ∃ c, Blk w ba c 27 ∧ c.size = nA * 6 ∧ AccAt c nA O)
    (hv : Blk w bv #[.slice (some ⟨bh, 0, none⟩) n n] 29) (hh : Row w bh 3 n (fun j => .int .i64 (H j))) (n1 : bs ≠ bh) (n2 : bp ≠ bh) (n3 : bt ≠ bh) (n4 : bm ≠ bh) (n5 : bw ≠ bh)
    (hH : ∀ j, j < n → ∃ p : Nat, H j = p ∧ p < nm) (hMb : ∀ v, v < nm → 0 ≤ M v ∧ M v < nT) (hTb : ∀ t, t < nT → 0 ≤ T t → T t < nA) (d1 : n ≤ 70000) (d2 : nm ≤ 70000) (d3 : nT ≤ 70000) (d4 : nA ≤ 70000) (hpos : 0 < n) :
    Calls Yba.prog 6 #[.pointer (some ⟨bs, 0, none⟩), .pointer (some ⟨bv, 0, none⟩), .int .i64 x] w fun e w' => e = .returned (.tuple #[]) ∧ Only (fun k => k = bh ∨ k = bv) w w' ∧
      ∀ L : List Int, L = Lib.compactUpTo ((kept (keepB M T O x) H n).mergeSort fun x y => decide (x ≤ y)).toArray ((kept (keepB M T O x) H n).mergeSort fun x y => decide (x ≤ y)).toArray.size →
        Blk w' bv #[.slice (some ⟨bh, 0, none⟩) L.length n] 29 ∧ ∀ j, j < L.length → w'.cell? ⟨bh, j, none⟩ = some (.int .i64 (L.getD j 0)) := by
  obtain ⟨ca, ha, has, haf⟩ := hA
  have nvh : bv ≠ bh := by obtain ⟨c, h, _⟩ := hh; exact hv.ne h (by decide)
  have nah : ba ≠ bh := by obtain ⟨c, h, _⟩ := hh; exact ha.ne h (by decide)
  have hcv := hv.cell (i := 0) (v := .slice (some ⟨bh, 0, none⟩) n n) (by rfl)
  obtain ⟨ch, hhb, hhs, hhf⟩ := hh
  have HX : Hid (SearchAt w bs bp bt ba bm bw nm nT nA ∧ Row w bm 3 nm (fun j => .int .i64 (M j)) ∧ Row w bw 3 nT (fun j => .int .i64 (T j)) ∧ Blk w ba ca 27 ∧ AccAt ca nA O ∧ Blk w bv #[.slice (some ⟨bh, 0, none⟩) n n] 29) := ⟨hS, hM, hT, ha, haf, hv⟩
  have HY : Hid ((∀ j, j < n → ∃ p : Nat, H j = p ∧ p < nm) ∧ (∀ v, v < nm → 0 ≤ M v ∧ M v < nT) ∧ (∀ t, t < nT → 0 ≤ T t → T t < nA)) := ⟨hH, hMb, hTb⟩
  have hm0 : MidRow ch n 0 [] H := ⟨hhs, Upto.zero _ _, fun j _ hj => hhf j hj⟩
  have HZ : Hid (Blk w bh ch 3 ∧ MidRow ch n 0 [] H) := ⟨hhb, hm0⟩
  clear hS hM hT ha haf hv hH hMb hTb hhb hhs hhf hm0 has
  go_enter Yba.func6, Yba.ntmps6
  go_wp2_with fail
  go_loopg [6, 18] n (fun g s i wr => ∃ k : Nat, g = n - k ∧ k ≤ n ∧ i = .int .i64 k ∧ s = .slice (some ⟨bh, 0, none⟩) (kept (keepB M T O x) H k).length n ∧ Only (fun k => k = bh) w wr ∧ ∃ c, Blk wr bh c 3 ∧ MidRow c n k (kept (keepB M T O x) H k) H)
  case atStart => exact ⟨0, rfl, Nat.zero_le _, rfl, rfl, Only.refl _ _, ch, HZ.out.1, HZ.out.2⟩
  case round =>
    obtain ⟨k, hg, hk, rfl, rfl, hon, c, hb, hmid⟩ := hrel
    have HG : Hid (gk = n - k) := hg
    have hkl := kept_le (keepB M T O x) H k
    clear hg hcv
    by_cases hlt : k < n
    · have hc0 := hb.cell (hmid.2.2 k (Nat.le_refl _) hlt)
      obtain ⟨p, hp, hpn⟩ := HY.out.1 k hlt
      obtain ⟨hm0, hm1⟩ := HY.out.2.1 p hpn
      obtain ⟨m, hm⟩ : ∃ m : Nat, M p = m := ⟨(M p).toNat, by omega⟩
      have hmT : m < nT := by omega
      have s1 := hon.cell HX.out.1.p n1
      have s2 := hon.cell HX.out.1.mem n1
      have s3 := hon.cell HX.out.1.wat n1
      have s4 := hon.cell HX.out.1.at_ n2
      have s5 := hon.cell HX.out.1.all n3
      have s6 := hon.cell (HX.out.2.1.cell hpn) n4
      have s7 := hon.cell (HX.out.2.2.1.cell hmT) n5
      simp only [hm] at s6
      simp only [hp] at hc0
      have htb := HY.out.2.2 m hmT
      have hkB : ∀ bb, keepB M T O x p = bb → kept (keepB M T O x) H (k + 1) = kept (keepB M T O x) H k ++ (if bb = true then [H k] else []) := fun bb h => by rw [kept_succ, hp, Int.toNat_natCast, h]
      have HP : Hid (H k = p ∧ M p = m) := ⟨hp, hm⟩
      have HB : Hid (Only (fun k => k = bh) w wr ∧ Blk wr bh c 3 ∧ MidRow c n k (kept (keepB M T O x) H k) H) := ⟨hon, hb, hmid⟩
      have HK : Hid (∀ bb, keepB M T O x p = bb → kept (keepB M T O x) H (k + 1) = kept (keepB M T O x) H k ++ (if bb = true then [H k] else [])) := hkB
      clear hon hb hmid hp hm hm0 hm1 hkB
      generalize hKK : kept (keepB M T O x) H k = KK at *
      by_cases h0 : 0 ≤ T m
      · obtain ⟨a, hat⟩ : ∃ a : Nat, T m = a := ⟨(T m).toNat, by omega⟩
        have haA : a < nA := by have := htb h0; omega
        have s8 := (HB.out.1.cell (HX.out.2.2.2.1.cell (HX.out.2.2.2.2.1 a haA)) nah)
        simp only [hat] at s7
        have hkv : keepB M T O x p = (O a == x) := by simp [keepB, HP.out.2, hat]
        have q : decide ((0 : Int) ≤ a) = true := by simp
        have HV : Hid (keepB M T O x p = (O a == x)) := hkv
        clear hat h0 htb hkv hKK
        by_cases hx : O a = x
        · have q2 : (O a == x) = true := by simpa using hx
          have HQ : Hid (O a = x) := hx
          clear hx
          go_wp2_with fail
          go_region
          obtain ⟨i0, hi0, hz0, hz1, hz2⟩ := info_parts Yba.info3
          have hbA := fun o => (HB.out.2.1.alloc o).drew
          have hcsz := HB.out.2.2.1
          have hk1 : KK.length < c.size := by omega
          clear hcsz
          go_wp2_with (at_builtin; go_loud (refine wpList_append_one _ rfl (.tmp 55) (.tmp 57) 29 rfl 3 i0 Yba.underlying29 hi0 hz1 bh KK.length n c rfl (hbA _) _ (.int .i64 p) rfl ?c1 rfl ?c2 ?c3 ?_))
          case c1 => refine news_one ?_; simp [go_sem]
          case c2 => omega
          case c3 => exact hk1
          clear hbA hi0 hz0 hz1 hz2
          go_wp2_with fail
          obtain ⟨hon, hb, hmid⟩ := HB.out
          have hKs := HK.out true (by rw [HV.out]; exact q2)
          simp only [if_true] at hKs
          go_roundg (n - (k + 1))
          case measure => have := HG.out; omega
          case rel =>
            have hpush := hmid.push hkl hlt
            rw [HP.out.1] at hpush hKs
            exact ⟨k + 1, rfl, by omega, by go_num, by rw [hKs]; simp, ((hon.alloc _).drew).setRow rfl _, _, Blk.setRow ((hb.alloc _).drew), by rw [hKs]; exact hpush⟩
        · have q2 : (O a == x) = false := by simpa using hx
          clear hx
          go_wp2_with fail
          go_region
          go_wp2_with fail
          obtain ⟨hon, hb, hmid⟩ := HB.out
          have hKs := HK.out false (by rw [HV.out]; exact q2)
          simp only [Bool.false_eq_true, if_false, List.append_nil] at hKs
          go_roundg (n - (k + 1))
          case measure => have := HG.out; omega
          case rel => exact ⟨k + 1, rfl, by omega, by go_num, by rw [hKs], hon.drew, c, hb.drew, by rw [hKs]; exact hmid.skip⟩
      · have q : decide (0 ≤ T m) = false := by simpa using h0
        have hkv : keepB M T O x p = false := by simp [keepB, HP.out.2]; intro h; omega
        have hKs := HK.out false hkv
        simp only [Bool.false_eq_true, if_false, List.append_nil] at hKs
        have HKS : Hid (kept (keepB M T O x) H (k + 1) = KK) := hKs
        clear h0 htb hkv hKK hKs
        go_wp2_with fail
        go_region
        go_wp2_with fail
        obtain ⟨hon, hb, hmid⟩ := HB.out
        go_roundg (n - (k + 1))
        case measure => have := HG.out; omega
        case rel => exact ⟨k + 1, rfl, by omega, by go_num, by rw [HKS.out], hon.drew, c, hb.drew, by rw [HKS.out]; exact hmid.skip⟩
    · obtain rfl : n = k := by omega
      have hH1 : Holds (Value.int .i64) wr bh 0 (kept (keepB M T O x) H n).toArray := holds_of_blockI hb (take_upto hmid.2.1)
      have hcs := hmid.1
      generalize hKK : kept (keepB M T O x) H n = KK at *
      have HKK : Hid (kept (keepB M T O x) H n = KK) := hKK
      have hperm := List.mergeSort_perm KK (fun x y => decide (x ≤ y))
      have hlen : (KK.mergeSort fun x y => decide (x ≤ y)).length = KK.length := hperm.length_eq
      have hcs1 := AnyM.slices_Sort_int Yba.sortL bh 0 n KK wr hH1 hb.lt (by omega)
      have HC1 : Hid (Calls Yba.prog 17 #[.slice (some ⟨bh, 0, none⟩) KK.length n] wr fun e w' => e = .returned (.tuple #[]) ∧ ∃ q os, w' = grow (putRow (Value.int .i64) (Sort.ahead wr q) bh 0 (KK.mergeSort fun x y => decide (x ≤ y)).toArray) os) := hcs1
      generalize hSS : (KK.mergeSort fun x y => decide (x ≤ y)) = S at *
      have HSS : Hid (KK.mergeSort (fun x y => decide (x ≤ y)) = S) := hSS
      clear hSS
      have HX2 : Hid (Only (fun k => k = bh) w wr ∧ Blk wr bh c 3 ∧ c.size = n ∧ Holds (Value.int .i64) wr bh 0 KK.toArray ∧ S.length = KK.length ∧ KK.length ≤ n) := ⟨hon, hb, hcs, hH1, hlen, hkl⟩
      clear hcs1 hon hb hmid hcs hH1 hperm hlen hKK
      go_wp2_with fail
      refine HC1.out.mono ?_
      rintro e w1 ⟨rfl, q1, os, rfl⟩
      obtain ⟨hon, hb, hcs, hH1, hlen, hkl'⟩ := HX2.out
      have hb1 : Blk (grow (putRow (Value.int .i64) (Sort.ahead wr q1) bh 0 S.toArray) os) bh (putCells (Value.int .i64) 0 S.toArray c) 3 := heap_sortedI (w := wr) (g := bh) (n := q1) (os := os) S.toArray hb
      have ho1 : Only (fun k => k = bh) w (grow (putRow (Value.int .i64) (Sort.ahead wr q1) bh 0 S.toArray) os) := hon.trans (only_grown (grownBy_sortedI S.toArray))
      have hH2 : Holds (Value.int .i64) (grow (putRow (Value.int .i64) (Sort.ahead wr q1) bh 0 S.toArray) os) bh 0 S.toArray := holds_of_blockI hb1 (take_putCellsI c S (by omega))
      generalize grow (putRow (Value.int .i64) (Sort.ahead wr q1) bh 0 S.toArray) os = w2 at *
      have hcs2 := AnyE.slices_Compact Yba.compactL (Value.int .i64) (fun _ => rfl) (EqlAt.intD _ _ _) (NeqAt.intD _ _ _) 0 Yba.zeroValue3 bh 0 n S.toArray w2 hH2 (by simp; omega) (by simp; omega)
      have HC2 : Hid (Calls Yba.prog 18 #[.slice (some ⟨bh, 0, none⟩) KK.length n] w2 fun e w' => e = .returned (.slice (some ⟨bh, 0, none⟩) (Lib.compactUpTo S.toArray S.length).length n) ∧ ∃ q, w' = putRow (Value.int .i64) (Sort.ahead w2 q) bh 0 (Lib.compactUpTo S.toArray S.length ++ List.replicate (S.length - (Lib.compactUpTo S.toArray S.length).length) 0).toArray) := by
        rw [← hlen]
        exact hcs2
      have hts : (Lib.compactUpTo S.toArray S.length).length ≤ S.length := compact_le _ _
      generalize hCL : Lib.compactUpTo S.toArray S.length = CL at *
      have HCL : Hid (Lib.compactUpTo S.toArray S.length = CL) := hCL
      clear hcs2 hCL
      go_wp2_with fail
      refine HC2.out.mono ?_
      rintro e w3 ⟨rfl, q2, rfl⟩
      have hov : Only (fun k => k = bh) w (putRow (Value.int .i64) (Sort.ahead w2 q2) bh 0 (CL ++ List.replicate (S.length - CL.length) 0).toArray) := ho1.trans (only_put _)
      have hcell : ∀ j, j < CL.length → (putRow (Value.int .i64) (Sort.ahead w2 q2) bh 0 (CL ++ List.replicate (S.length - CL.length) 0).toArray).cell? ⟨bh, j, none⟩ = some (.int .i64 (CL.getD j 0)) := by
        intro j hj
        have h1 := put_cell hb1 (q := q2) (ts := CL ++ List.replicate (S.length - CL.length) 0) (by simp [putCells]; omega) j (by simp; omega)
        rw [h1]
        simp [List.getD, List.getElem?_append_left hj]
      have hbv := hov.blk HX.out.2.2.2.2.2 nvh
      generalize putRow (Value.int .i64) (Sort.ahead w2 q2) bh 0 (CL ++ List.replicate (S.length - CL.length) 0).toArray = w3 at *
      have hcv := hbv.cell (i := 0) (v := .slice (some ⟨bh, 0, none⟩) n n) (by rfl)
      have hfv := hbv.frozen 0
      have HF : Hid (Only (fun k => k = bh) w w3 ∧ Blk w3 bv #[.slice (some ⟨bh, 0, none⟩) n n] 29 ∧ ∀ j, j < CL.length → w3.cell? ⟨bh, j, none⟩ = some (.int .i64 (CL.getD j 0))) := ⟨hov, hbv, hcell⟩
      clear hov hbv hcell hts hb1 ho1 hH2 hon hb hcs hH1 hlen HC1 HC2 HX2
      go_wp2_with fail
      go_end0
      obtain ⟨hov, hbv, hcell⟩ := HF.out
      refine ⟨rfl, (hov.weak (fun k e => .inl e)).setCell (.inr rfl) _, ?_⟩
      intro L hL
      obtain rfl : L = CL := by rw [hL, HKK.out, HSS.out]; exact HCL.out
      refine ⟨by simpa using hbv.set 0 (.slice (some ⟨bh, 0, none⟩) L.length n), fun j hj => ?_⟩
      rw [← hcell j hj]
      exact World.cell?_of_block (Below.heap_setCell _ _ _ _ (fun e => nvh (by simpa using e.symm)))
set_option maxRecDepth 100000 in
theorem compact_none (p : Option Addr) (cap : Nat) (w : World) : Calls Yba.prog 18 #[.slice p 0 cap] w fun e w' => e = .returned (.slice p 0 cap) ∧ w' = w := by
  go_enter Yba.func18, Yba.ntmps18
  go_wp2_with fail
  go_ret
  exact ⟨rfl, rfl⟩
set_option maxRecDepth 100000 in
theorem prune_zero (bs bv : Nat) (hao : Option Addr) (x : Int) (w : World) (hv : Blk w bv #[.slice hao 0 0] 29) :
    Calls Yba.prog 6 #[.pointer (some ⟨bs, 0, none⟩), .pointer (some ⟨bv, 0, none⟩), .int .i64 x] w fun e w' => e = .returned (.tuple #[]) ∧ Only (fun k => k = bv) w w' ∧ ∃ ao, Blk w' bv #[.slice ao 0 0] 29 := by
  have hcv := hv.cell (i := 0) (v := .slice hao 0 0) (by rfl)
  have hfv := hv.frozen 0
  have HV : Hid (Blk w bv #[.slice hao 0 0] 29) := hv
  clear hv
  have HC1 : Hid (∀ p, Calls Yba.prog 17 #[.slice p 0 0] w fun e w' => e = .returned (.tuple #[]) ∧ w' = w) := fun p => AnyM.slices_Sort_int_none Yba.sortL p 0 w
  cases hao
  all_goals
    go_enter Yba.func6, Yba.ntmps6
    go_wp2_with fail
    refine wp_loop_rounds 1 ?_
    rw [rounds_succ]
    go_wp2_with fail
    refine (HC1.out _).mono ?_
    rintro e w1 ⟨rfl, rfl⟩
    go_wp2_with fail
    refine (compact_none _ 0 _).mono ?_
    rintro e w1 ⟨rfl, rfl⟩
    go_wp2_with fail
    go_end0
    exact ⟨rfl, (Only.refl (fun k => k = bv) _).setCell (p := ⟨bv, 0, none⟩) rfl _, _, by simpa using HV.out.set 0 _⟩
end Go.Proofs.Ybulkdknq
