/-
  LawS5578AWhole: what zzs5578abuild does, at every spec and depth.
-/
import Derived.Test.YbulkdkmoATree
import Derived.OwnWalk
namespace Go.Proofs.Ybulkdkmo
open Go.ChangeShapes Go.WideShapes Go.ChangeAt Go.RowKit
theorem Yba.info56 : (Yba.prog.info? 56).map (fun i => (i.zero, i.size, i.bytes)) = some (some (.agg #[.int .u64 0, .int .i64 0, .pointer none]), 3, 24) := by kernel_rfl
def Built (B : Nat) (W0 w : World) (bi bo len m : Nat) (ls : List Nat) (e : Ending) (w' : World) : Prop :=
  ∃ p i' v' ls2, e = .returned (ptrV p) ∧ i' ≤ len ∧ St B W0 w' bi bo i' v' (ls ++ ls2) ∧ ls2.length ≤ 3 ^ m ∧ Keeps w w' ∧ TreeAt w' w.heap.size m p ls2 ∧ w.heap.size ≤ w'.heap.size
theorem make_kids0 (n : Nat) (hn : n ≤ 1048576) (w : World) : (Instr.makeSlice 48 (.int .i64 0) (.int .i64 (n : Int))).run Yba.prog w = .ok (.slice (some ⟨w.heap.size, 0, none⟩) 0 n) (w.alloc (.cells (madeCells #[.int .u64 0, .int .i64 0, .pointer none] (n * 3)) 56)) := by
  obtain ⟨i, hi, hz0, hz1, hz2⟩ := info_parts Yba.info56
  have := run_make (P := Yba.prog) w 48 56 i _ Yba.underlying48 hi hz0 .i64 .i64 0 n (by omega) (by omega) (by rw [hz2]; omega) (by omega)
  rw [hz1] at this
  simpa [Value.cells] using this
theorem Lp.start {B : Nat} {W0 w ws : World} {bi bo len m ar i : Nat} {v : Value} {ls : List Nat} (hs : St B W0 ws bi bo i v ls) (hk : Keeps w ws) (hsz : ws.heap.size = w.heap.size) (hi : i ≤ len) (har : ar ≤ 3) :
    Lp B W0 w ((ws.alloc (.cells (madeCells #[.int .u64 0, .int .i64 0, .pointer none] (ar * 3)) 56)).alloc (.cells #[.slice (some ⟨w.heap.size, 0, none⟩) 0 ar] 48)) bi bo len m ar ls 0 i v [] := by
  refine ⟨by simpa using (hs.alloc _).alloc _, hi, (hk.alloc _).alloc _, ?_, ?_, rfl, by simp, fun x hx => by simp at hx⟩
  · have := Blk.new (ws.alloc (.cells (madeCells #[.int .u64 0, .int .i64 0, .pointer none] (ar * 3)) 56)) #[.slice (some ⟨w.heap.size, 0, none⟩) 0 ar] 48
    simpa [hsz] using this
  · have := Blk.new ws (madeCells #[.int .u64 0, .int .i64 0, .pointer none] (ar * 3)) 56
    rw [hsz] at this
    exact owns_mk (by simp [kcells]) (this.alloc _) (by simp [kcells]) (Nat.zero_le _) (by unfold maxLen; omega) (size_madeCells _ _) (hsz ▸ hs.size)
theorem news_three {w : World} {g : Nat} {x y z : Value} (h0 : w.cell? ⟨g, 0, none⟩ = some x) (h1 : w.cell? ⟨g, 1, none⟩ = some y) (h2 : w.cell? ⟨g, 2, none⟩ = some z) : ∀ j u, [x, y, z][j]? = some u → w.cell? ((⟨g, 0, none⟩ : Addr).add j) = some u := by
  intro j u hj
  match j, hj with
  | 0, hj => simp at hj; subst hj; simpa [Addr.add] using h0
  | 1, hj => simp at hj; subst hj; simpa [Addr.add] using h1
  | 2, hj => simp at hj; subst hj; simpa [Addr.add] using h2
theorem cnt_all {m ar n : Nat} (h : n ≤ ar * 3 ^ m) (har : ar ≤ 3) : n ≤ 3 ^ (m + 1) := by
  have : ar * 3 ^ m ≤ 3 * 3 ^ m := Nat.mul_le_mul_right _ (by omega)
  have e : 3 ^ (m + 1) = 3 ^ m * 3 := Nat.pow_succ 3 m
  omega
theorem Lp.tree {B : Nat} {W0 w wr : World} {bi bo len m ar : Nat} {ls : List Nat} {i : Nat} {v : Value} {ks : List (Nat × List Nat)} (h : Lp B W0 w wr bi bo len m ar ls ar i v ks) (har : ar ≤ 3) (_hB : B ≤ w.heap.size) :
    TreeAt (wr.alloc (.cells #[.slice none 0 0, ptrV (w.heap.size + 1)] 54)) w.heap.size (m + 1) wr.heap.size (ks.map Prod.snd).flatten := by
  obtain ⟨cur, q1, q2, q3, q4, q5, q6⟩ := owns_blk h.row
  have hl := h.kv.lt
  refine .inr ⟨w.heap.size + 1, w.heap.size, ar, ks, cur, by omega, by omega, by omega, Blk.new _ _ _, ?_, q1.alloc _, rowOf_take (by rw [h.kl]; exact q2), fun x hx => ?_, rfl, by rw [h.kl]; exact har⟩
  · rw [h.kl]; exact h.kv.alloc _
  · exact (h.trees x hx).keep (by omega) (fun b c t _ _ hb => hb.alloc _)
theorem cnt_le {m k ar n : Nat} (h : n ≤ k * 3 ^ m) (hk : k < ar) (har : ar ≤ 3) : n + 3 ^ m ≤ 3 ^ (m + 1) := by
  have : k * 3 ^ m ≤ 2 * 3 ^ m := Nat.mul_le_mul_right _ (by omega)
  have e : 3 ^ (m + 1) = 3 ^ m * 3 := Nat.pow_succ 3 m
  omega
set_option maxRecDepth 100000 in
set_option maxHeartbeats 1000000 in
theorem inner_case (B : Nat) (W0 : World) (bi bo : Nat) (a0 : Option Addr) (len cap : Nat) (hlen : len ≤ 140737488351232) (m : Nat)
    (ih : ∀ (dI : Int) (w : World) (i : Nat) (v : Value) (ls : List Nat), dI + m = 4 → St B W0 w bi bo i v ls → ls.length + 3 ^ m ≤ 1000 → i ≤ len → Calls Yba.prog 7 #[.slice a0 len cap, ptrV bi, .int .i64 dI, ptrV bo] w (Built B W0 w bi bo len m ls))
    (dI : Int) (w : World) (i : Nat) (v : Value) (ls : List Nat) (hd : dI + (m + 1) = 4) (hdl : 0 ≤ dI) (hs : St B W0 w bi bo i v ls) (hls : ls.length + 3 ^ (m + 1) ≤ 1000) (hi : i < len)
    (b off : Nat) (z : Int) (ha0 : a0 = some ⟨b, off, none⟩) (hcz : w.cell? ⟨b, off + i, none⟩ = some (.int .u8 z)) (_hne : b ≠ bi) (ar : Nat) (hz5 : z % 5 = ar + 1) (hz0 : 0 ≤ z) (hz1 : z ≤ 255) :
    Calls Yba.prog 7 #[.slice a0 len cap, ptrV bi, .int .i64 dI, ptrV bo] w (Built B W0 w bi bo len (m + 1) ls) := by
  subst ha0
  have har : ar ≤ 3 := by omega
  have hmk := make_kids0 ar (by omega)
  have c1 := hs.hi.cell (i := 0) (v := .int .i64 i) (by rfl)
  have f1 := hs.hi.frozen 0
  have hdm : dI < 4 := by omega
  have t1 : decide (4 ≤ dI) = false := by simp; omega
  have t2 : decide (len ≤ i) = false := by simp; omega
  have t3 : ((ar : Int) + 1 == 0) = false := by simp; omega
  have IH := ih
  have HI : Hid (∀ (dI : Int) (w : World) (i : Nat) (v : Value) (ls : List Nat), dI + m = 4 → St B W0 w bi bo i v ls → ls.length + 3 ^ m ≤ 1000 → i ≤ len → Calls Yba.prog 7 #[.slice (some ⟨b, off, none⟩) len cap, ptrV bi, .int .i64 dI, ptrV bo] w (Built B W0 w bi bo len m ls)) := ih
  have HS : Hid (St B W0 w bi bo i v ls) := hs
  have HD : Hid (dI + (m + 1) = 4) := hd
  clear ih hs hd IH
  go_enter Yba.func7, Yba.ntmps7
  go_wp2_with fail
  clear hmk hz5
  go_loopg [14] ar (fun g c wr => ∃ (k i' : Nat) (v' : Value) (ks : List (Nat × List Nat)), g = ar - k ∧ k ≤ ar ∧ c = .int .i64 k ∧ Lp B W0 w wr bi bo len m ar ls k i' v' ks)
  case atStart => exact ⟨0, _, _, _, rfl, Nat.zero_le _, rfl, Lp.start (HS.out.step (i + 1) (i + 1) (by omega)) ((Keeps.refl w).set HS.out.hi (by simp) 0 _) (by simp) (by omega) har⟩
  case round =>
    obtain ⟨k, i', v', ks, hg, hk, rfl, hlp⟩ := hrel
    have HG : Hid (gk = ar - k) := hg
    have HL : Hid (Lp B W0 w wr bi bo len m ar ls k i' v' ks) := hlp
    clear hg hlp c1 f1 hcz
    by_cases hlt : k < ar
    · go_wp2_with fail
      refine (HI.out (dI + 1) _ i' v' _ (by have := HD.out; omega) HL.out.st (by have := cnt_le HL.out.cnt hlt har; simp only [List.length_append]; omega) HL.out.il).mono ?_
      rintro e w2 ⟨p, i2, v2, ls3, rfl, hi2, hs2, hl3, hk2, ht2, hsz2⟩
      obtain ⟨q1, q2, q3, q4⟩ := HL.out.called hk2 ht2
      have hc := q2.cell (i := 0) (v := .slice (some ⟨w.heap.size, 0, none⟩) k ar) (by rfl)
      have ho3 := fun o => q3.alloc o
      have HQ : Hid (St B W0 w2 bi bo i2 v2 (ls ++ (ks.map Prod.snd).flatten ++ ls3) ∧ i2 ≤ len ∧ Keeps w w2 ∧ Blk w2 (w.heap.size + 1) #[.slice (some ⟨w.heap.size, 0, none⟩) k ar] 48 ∧ w2.ownsRow B 56 3 (.slice (some ⟨w.heap.size, 0, none⟩) k ar) k (kcells ks) ∧ (∀ x, x ∈ ks ++ [(p, ls3)] → TreeAt w2 (w.heap.size + 2) m x.1 x.2) ∧ ls3.length ≤ 3 ^ m) := ⟨hs2, hi2, q1, q2, q3, q4, hl3⟩
      clear hk2 ht2 hsz2 hs2 hi2 hl3 q1 q2 q3 q4
      obtain ⟨i0, hi0, hz0', hz1', hz2'⟩ := info_parts Yba.info56
      go_wp2_with (at_builtin; go_loud (refine wpList_append_fits _ rfl (.tmp 101) (.tmp 104) 48 rfl B 56 i0 3 Yba.underlying48 hi0 hz1' w.heap.size k ar (kcells ks) rfl (ho3 _) _ 1 1 [.int .u64 0, .int .i64 1, ptrV p] rfl rfl ?c1 ?c2 ?c3 ?_))
      case c1 => refine news_three ?_ ?_ ?_ <;> simp [go_sem]
      case c2 => simp [Value.oneCell']
      case c3 => omega
      · intro w4 hown4 hg4
        obtain ⟨s2, i2l, q1, q2, q3, q4, hl3⟩ := HQ.out
        obtain ⟨r1, r2, r3⟩ := Lp.pushed s2 i2l q1 q2 q3 q4 HL.out.kl HL.out.cnt hl3 hg4 hown4 HS.out.size
        have HR : Hid (Lp B W0 w (w4.setCell ⟨w.heap.size + 1, 0, none⟩ (.slice (some ⟨w.heap.size, 0, none⟩) (k + 1) ar)) bi bo len m ar ls (k + 1) i2 v2 (ks ++ [(p, ls3)])) := r1
        clear ho3 hown4 hg4 hc s2 i2l q1 q2 q3 q4 r1
        go_wp2
        go_roundg (ar - (k + 1))
        case measure => have := HG.out; omega
        case rel => exact ⟨k + 1, i2, v2, _, rfl, by omega, by go_num, HR.out⟩
    · obtain rfl : ar = k := by omega
      go_wp2_with fail
      go_ret
      exact ⟨wr.heap.size, i', v', (ks.map Prod.snd).flatten, rfl, HL.out.il, HL.out.st.alloc _, cnt_all HL.out.cnt har, HL.out.keeps.alloc _, HL.out.tree har HS.out.size, by have := HL.out.kv.lt; simp; omega⟩
theorem build_any (B : Nat) (W0 : World) (bi bo : Nat) (a0 : Option Addr) (len cap : Nat) (hlen : len ≤ 140737488351232) (hbi : B ≤ bi)
    (hsp : 0 < len → ∃ b off, a0 = some ⟨b, off, none⟩ ∧ b < B ∧ ∀ j, j < len → ∃ z : Int, W0.cell? ⟨b, off + j, none⟩ = some (.int .u8 z) ∧ 0 ≤ z ∧ z ≤ 255) (m : Nat) :
    m ≤ 4 → ∀ (dI : Int) (w : World) (i : Nat) (v : Value) (ls : List Nat), dI + m = 4 → St B W0 w bi bo i v ls → ls.length + 3 ^ m ≤ 1000 → i ≤ len → Calls Yba.prog 7 #[.slice a0 len cap, ptrV bi, .int .i64 dI, ptrV bo] w (Built B W0 w bi bo len m ls) := by
  have leaf : ∀ (m : Nat) (w : World) (i : Nat) (ls : List Nat) (e : Ending) (w' : World), (∃ i' v', e = .returned (ptrV (w.heap.size + 1)) ∧ i' ≤ len ∧ St B W0 w' bi bo i' v' (ls ++ [w.heap.size + 1]) ∧ Keeps w w' ∧ Blk w' (w.heap.size + 1) #[.slice (some ⟨w.heap.size, 0, none⟩) 1 1, .pointer none] 54 ∧ w.heap.size ≤ w'.heap.size) → Built B W0 w bi bo len m ls e w' := by
    rintro m w i ls e w' ⟨i', v', h1, h2, h3, h4, h5, h6⟩
    exact ⟨w.heap.size + 1, i', v', [w.heap.size + 1], h1, h2, h3, by simpa using Nat.one_le_pow m 3 (by omega), h4, TreeAt.leaf m ⟨by omega, _, h5⟩, h6⟩
  induction m with
  | zero =>
    intro _ dI w i v ls hd hs hls hi
    obtain rfl : dI = ((4 : Nat) : Int) := by omega
    exact (leaf_case B W0 w bi bo i v ls a0 len cap 4 hs (by simp at hls; omega) hlen hi (.inl rfl)).mono fun e w' h => leaf 0 w i ls e w' h
  | succ m ih =>
    intro hm dI w i v ls hd hs hls hi
    have hls1 : ls.length ≤ 1000 := Nat.le_trans (Nat.le_add_right _ _) hls
    obtain ⟨dn, rfl⟩ : ∃ n : Nat, dI = (n : Int) := ⟨dI.toNat, by omega⟩
    by_cases hil : len ≤ i
    · exact (leaf_case B W0 w bi bo i v ls a0 len cap dn hs hls1 hlen hi (.inr (.inl ⟨by omega, hil⟩))).mono fun e w' h => leaf (m + 1) w i ls e w' h
    · obtain ⟨b, off, rfl, hb, hz⟩ := hsp (by omega)
      obtain ⟨z, hcz, hz0, hz1⟩ := hz i (by omega)
      have hcw : w.cell? ⟨b, off + i, none⟩ = some (.int .u8 z) := (hs.bel.cell (by exact hb)).trans hcz
      by_cases hz5 : z % 5 = 0
      · exact (leaf_case B W0 w bi bo i v ls _ len cap dn hs hls1 hlen hi (.inr (.inr ⟨by omega, by omega, b, off, z, rfl, hcw, hz5, hz0, hz1⟩))).mono fun e w' h => leaf (m + 1) w i ls e w' h
      · exact inner_case B W0 bi bo _ len cap hlen m (ih (by omega)) dn w i v ls (by omega) (by omega) hs hls (by omega) b off z rfl hcw (by omega) (z % 5 - 1).toNat (by omega) hz0 hz1
end Go.Proofs.Ybulkdkmo
