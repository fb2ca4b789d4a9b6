/-
  LawS5582AWhole: the comparison of byte slices (plain; walked), the Comparer's method and the closures that call it.
-/
import Derived.Test.YbulkdkosASym1
import Derived.Deep.DeepCutAuto
namespace Go.Proofs.Ybulkdkos
open Go.RowKit Go.Sort Go.Proofs
set_option linter.unusedVariables false
/-- Bytes, in the order of the bytes. -/
def cmpL : List Int → List Int → Int
  | [], [] => 0
  | [], _ :: _ => -1
  | _ :: _, [] => 1
  | x :: xs, y :: ys => if x < y then -1 else if y < x then 1 else cmpL xs ys
theorem cmpL_anti : ∀ xs ys, cmpL ys xs = - cmpL xs ys
  | [], [] => rfl
  | [], _ :: _ => rfl
  | _ :: _, [] => rfl
  | x :: xs, y :: ys => by
    simp only [cmpL]
    have := cmpL_anti xs ys
    repeat' split
    all_goals omega
theorem cmpL_zero : ∀ xs ys, cmpL xs ys = 0 → xs = ys
  | [], [], _ => rfl
  | [], _ :: _, h => by simp [cmpL] at h
  | _ :: _, [], h => by simp [cmpL] at h
  | x :: xs, y :: ys, h => by
    simp only [cmpL] at h
    split at h
    · omega
    · split at h
      · omega
      · rw [cmpL_zero xs ys h, show x = y by omega]
theorem cmpL_bd : ∀ xs ys, -1 ≤ cmpL xs ys ∧ cmpL xs ys ≤ 1
  | [], [] => by simp [cmpL]
  | [], _ :: _ => by simp [cmpL]
  | _ :: _, [] => by simp [cmpL]
  | x :: xs, y :: ys => by
    have := cmpL_bd xs ys
    simp only [cmpL]
    repeat' split
    all_goals omega
theorem cmpL_self : ∀ xs, cmpL xs xs = 0
  | [] => rfl
  | x :: xs => by simp [cmpL, cmpL_self xs]
theorem cmpL_trans : ∀ xs ys zs, cmpL xs ys < 0 → cmpL ys zs < 0 → cmpL xs zs < 0
  | [], [], _, h, _ => by simp [cmpL] at h
  | [], _ :: _, [], _, h => by simp [cmpL] at h
  | [], _ :: _, _ :: _, _, _ => by simp [cmpL]
  | _ :: _, [], _, h, _ => by simp [cmpL] at h
  | _ :: _, _ :: _, [], _, h => by simp [cmpL] at h
  | x :: xs, y :: ys, z :: zs, h1, h2 => by
    have ih := cmpL_trans xs ys zs
    simp only [cmpL] at h1 h2 ⊢
    by_cases a : x < y
    · by_cases b : y < z
      · rw [if_pos (by omega)]; omega
      · rw [if_neg b] at h2
        by_cases d : z < y
        · rw [if_pos d] at h2; omega
        · rw [if_pos (by omega)]; omega
    · rw [if_neg a] at h1
      by_cases a2 : y < x
      · rw [if_pos a2] at h1; omega
      · rw [if_neg a2] at h1
        by_cases b : y < z
        · rw [if_pos (by omega)]; omega
        · rw [if_neg b] at h2
          by_cases d : z < y
          · rw [if_pos d] at h2; omega
          · rw [if_neg d] at h2
            rw [if_neg (by omega), if_neg (by omega)]
            exact ih h1 h2
/-- .. reversed on demand. -/
def cmpR (rev : Bool) (S : Nat → List Int) (i j : Nat) : Int := if rev then - cmpL (S i) (S j) else cmpL (S i) (S j)
theorem cmpR_ord (rev : Bool) (S : Nat → List Int) : Ord (cmpR rev S) := by
  refine ⟨fun i j => ?_, fun i j k h1 h2 => ?_, fun i j k h => ?_⟩
  · have := cmpL_anti (S i) (S j)
    unfold cmpR
    split <;> omega
  · unfold cmpR at *
    cases rev
    · simp at *
      exact cmpL_trans _ _ _ h1 h2
    · simp at *
      have a1 := cmpL_anti (S i) (S j)
      have a2 := cmpL_anti (S j) (S k)
      have a3 := cmpL_anti (S i) (S k)
      have := cmpL_trans (S k) (S j) (S i) (by omega) (by omega)
      omega
  · have : S i = S j := by
      refine cmpL_zero _ _ ?_
      unfold cmpR at h
      cases rev <;> simp at h <;> omega
    unfold cmpR
    rw [this]
theorem cmpR_zero (rev : Bool) (S : Nat → List Int) (i j : Nat) : cmpR rev S i j = 0 ↔ S i = S j := by
  constructor
  · intro h
    refine cmpL_zero _ _ ?_
    unfold cmpR at h
    cases rev <;> simp at h <;> omega
  · intro h
    unfold cmpR
    rw [h, cmpL_self]
    simp
/-- A slice of bytes that reads xs. -/
def BytesAt (w : World) (a : Option Addr) (n : Nat) (xs : List Int) : Prop := xs.length = n ∧ (0 < n → ∃ b o, a = some ⟨b, o, none⟩ ∧ b < w.heap.size ∧ ∀ j, j < n → w.cell? ⟨b, o + j, none⟩ = some (.int .u8 (xs.getD j 0)))
theorem cell_lt' {w : World} {b o : Nat} {v : Value} (h : w.cell? ⟨b, o, none⟩ = some v) : b < w.heap.size := by
  by_cases hb : b < w.heap.size
  · exact hb
  · have : w.heap[b]? = none := by simp; omega
    simp [World.cell?, this] at h
theorem BytesAt.kept {w w' : World} {a : Option Addr} {n : Nat} {xs : List Int} (h : BytesAt w a n xs) (hk : ∀ b o v, b < w.heap.size → w.cell? ⟨b, o, none⟩ = some v → (∃ z, v = .int .u8 z) → w'.cell? ⟨b, o, none⟩ = some v) (hs : w.heap.size ≤ w'.heap.size) : BytesAt w' a n xs :=
  ⟨h.1, fun hn => by
    obtain ⟨b, o, h1, h2, h3⟩ := h.2 hn
    exact ⟨b, o, h1, Nat.lt_of_lt_of_le h2 hs, fun j hj => hk b _ _ h2 (h3 j hj) ⟨_, rfl⟩⟩⟩
theorem BytesAt.grow {w : World} {a : Option Addr} {n : Nat} {xs : List Int} (h : BytesAt w a n xs) (os : Array Obj) : BytesAt (grow w os) a n xs :=
  h.kept (fun b o v hb hc _ => by rw [cell?_grow _ _ _ hb]; exact hc) (by rw [size_grow]; omega)
theorem BytesAt.alloc2 {w : World} {a : Option Addr} {n : Nat} {xs : List Int} (h : BytesAt w a n xs) (o1 o2 : Obj) : BytesAt ((w.alloc o1).alloc o2) a n xs := by
  rw [alloc_eq_grow, alloc_eq_grow, grow_grow]; exact h.grow _
theorem drop_cons {xs : List Int} {k : Nat} (h : k < xs.length) : xs.drop k = xs.getD k 0 :: xs.drop (k + 1) := by
  rw [List.drop_eq_getElem_cons h]
  simp [List.getD, h]
set_option maxRecDepth 100000 in
set_option maxHeartbeats 1000000 in
theorem acmpb_any (a1 : Option Addr) (n1 c1 : Nat) (xs : List Int) (a2 : Option Addr) (n2 c2 : Nat) (ys : List Int) (w : World) (q1 : BytesAt w a1 n1 xs) (q2 : BytesAt w a2 n2 ys) (s1 : n1 ≤ 140737488351232) (s2 : n2 ≤ 140737488351232) :
    Calls Yba.prog 7 #[.slice a1 n1 c1, .slice a2 n2 c2] w fun e w' => e = .returned (.int .i64 (cmpL xs ys)) ∧ ∃ q, w' = w.drewN q := by
  obtain ⟨l1, q1⟩ := q1
  obtain ⟨l2, q2⟩ := q2
  have L1 : Hid (xs.length = n1) := l1
  have L2 : Hid (ys.length = n2) := l2
  have Q : Hid ((0 < n1 → ∃ b o, a1 = some ⟨b, o, none⟩ ∧ b < w.heap.size ∧ ∀ j, j < n1 → w.cell? ⟨b, o + j, none⟩ = some (.int .u8 (xs.getD j 0))) ∧ (0 < n2 → ∃ b o, a2 = some ⟨b, o, none⟩ ∧ b < w.heap.size ∧ ∀ j, j < n2 → w.cell? ⟨b, o + j, none⟩ = some (.int .u8 (ys.getD j 0)))) := ⟨q1, q2⟩
  clear l1 l2 q1 q2
  obtain ⟨n, hn⟩ : ∃ n, n = min n1 n2 := ⟨_, rfl⟩
  have hn1 : n ≤ n1 := by omega
  have hn2 : n ≤ n2 := by omega
  have HN : Hid (n = min n1 n2) := hn
  clear hn
  go_enter Yba.func7, Yba.ntmps7
  go_upto_if 12 with fail
  go_cut [5] (fun v wx => v = .int .i64 n ∧ w = wx)
  case first =>
    by_cases h : n2 < n1
    · go_wp2_with fail
      go_meet
      case rel => exact ⟨by rw [HN.out, show min n1 n2 = n2 by omega], rfl⟩
    · go_wp2_with fail
      go_meet
      case rel => exact ⟨by rw [HN.out, show min n1 n2 = n1 by omega], rfl⟩
  case rest =>
  obtain ⟨rfl, rfl⟩ := hcut
  go_wp2_with fail
  go_loopg [6] n (fun g' vi wr => ∃ k q : Nat, g' = n - k ∧ k ≤ n ∧ vi = .int .i64 k ∧ w.drewN q = wr ∧ cmpL xs ys = cmpL (xs.drop k) (ys.drop k))
  case atStart => exact ⟨0, 0, rfl, Nat.zero_le _, rfl, rfl, rfl⟩
  case round =>
    obtain ⟨k, q, hgk, hk, rfl, rfl, hd⟩ := hrel
    have HG : Hid (gk = n - k) := hgk
    have HD : Hid (cmpL xs ys = cmpL (xs.drop k) (ys.drop k)) := hd
    clear hgk hd
    by_cases hlt : k < n
    · obtain ⟨b, o, rfl, hbl, hc⟩ := Q.out.1 (by omega)
      obtain ⟨b', o', rfl, hbl', hc'⟩ := Q.out.2 (by omega)
      have hx := hc k (by omega)
      have hy := hc' k (by omega)
      obtain ⟨x, hxx⟩ : ∃ x, xs.getD k 0 = x := ⟨_, rfl⟩
      obtain ⟨y, hyy⟩ : ∃ y, ys.getD k 0 = y := ⟨_, rfl⟩
      have HR : Hid (cmpL xs ys = if x < y then -1 else if y < x then 1 else cmpL (xs.drop (k + 1)) (ys.drop (k + 1))) := by
        have e1 := drop_cons (xs := xs) (k := k) (by rw [L1.out]; omega)
        have e2 := drop_cons (xs := ys) (k := k) (by rw [L2.out]; omega)
        show cmpL xs ys = _
        rw [HD.out, e1, e2, hxx, hyy]
        rfl
      rw [hxx] at hx
      rw [hyy] at hy
      have hx' : ∀ m, (w.drewN m).cell? ⟨b, o + k, none⟩ = some (.int .u8 x) := fun m => hx
      have hy' : ∀ m, (w.drewN m).cell? ⟨b', o' + k, none⟩ = some (.int .u8 y) := fun m => hy
      clear hxx hyy hc hc' hx hy HD
      by_cases h1 : x < y
      · go_wp2_with fail
        go_quiet (fail)
        go_wp2_with fail
        go_ret
        exact ⟨by rw [HR.out, if_pos h1]; rfl, _, World.drewN_drewN _ _ _⟩
      · by_cases h2 : y < x
        · go_wp2_with fail
          go_quiet (fail)
          go_wp2_with fail
          go_quiet (fail)
          go_wp2_with fail
          go_ret
          exact ⟨by rw [HR.out, if_neg (by omega), if_pos h2]; rfl, _, by rw [World.drewN_drewN, World.drewN_drewN]⟩
        · go_wp2_with fail
          go_quiet (fail)
          go_wp2_with fail
          go_quiet (fail)
          go_wp2_with fail
          go_roundg (n - (k + 1))
          case measure => have := HG.out; omega
          case rel => exact ⟨k + 1, _, rfl, by omega, by go_num, rfl, by rw [HR.out, if_neg (by omega), if_neg (by omega)]⟩
    · obtain rfl : n = k := by omega
      have hd := HD.out
      by_cases h1 : n1 < n2
      · have e1 : xs.drop n = [] := by rw [List.drop_eq_nil_iff, L1.out]; have := HN.out; omega
        have e2 := drop_cons (xs := ys) (k := n) (by rw [L2.out]; have := HN.out; omega)
        rw [e1, e2] at hd
        have HV : Hid (cmpL xs ys = -1) := hd
        clear e1 e2 hd
        go_wp2_with fail
        go_ret
        exact ⟨by rw [HV.out]; rfl, q, rfl⟩
      · by_cases h2 : n2 < n1
        · have e2 : ys.drop n = [] := by rw [List.drop_eq_nil_iff, L2.out]; have := HN.out; omega
          have e1 := drop_cons (xs := xs) (k := n) (by rw [L1.out]; have := HN.out; omega)
          rw [e1, e2] at hd
          have HV : Hid (cmpL xs ys = 1) := hd
          clear e1 e2 hd
          go_wp2_with fail
          go_ret
          exact ⟨by rw [HV.out]; rfl, q, rfl⟩
        · have e1 : xs.drop n = [] := by rw [List.drop_eq_nil_iff, L1.out]; have := HN.out; omega
          have e2 : ys.drop n = [] := by rw [List.drop_eq_nil_iff, L2.out]; have := HN.out; omega
          rw [e1, e2] at hd
          have HV : Hid (cmpL xs ys = 0) := hd
          clear e1 e2 hd
          go_wp2_with fail
          go_ret
          exact ⟨by rw [HV.out]; rfl, q, rfl⟩
set_option maxRecDepth 100000 in
/-- The Comparer's method. -/
theorem compare_any (rev : Bool) (S : Nat → List Int) (i j bx : Nat) (a1 : Option Addr) (n1 c1 : Nat) (a2 : Option Addr) (n2 c2 : Nat) (w : World) (hb : w.cell? ⟨bx, 0, none⟩ = some (.bool rev)) (q1 : BytesAt w a1 n1 (S i)) (q2 : BytesAt w a2 n2 (S j)) (s1 : n1 ≤ 140737488351232) (s2 : n2 ≤ 140737488351232) :
    Calls Yba.prog 45 #[ptrV bx, .slice a1 n1 c1, .slice a2 n2 c2] w fun e w' => e = .returned (.int .i64 (cmpR rev S i j)) ∧ ∃ q, w' = w.drewN q := by
  have T := acmpb_any a1 n1 c1 (S i) a2 n2 c2 (S j) w q1 q2 s1 s2
  have hb' : ∀ m, (w.drewN m).cell? ⟨bx, 0, none⟩ = some (.bool rev) := fun m => hb
  have hr : Hid (cmpR rev S i j = if rev then - cmpL (S i) (S j) else cmpL (S i) (S j)) := rfl
  have hbd : -1 ≤ cmpL (S i) (S j) ∧ cmpL (S i) (S j) ≤ 1 := cmpL_bd _ _
  obtain ⟨hbd1, hbd2⟩ := hbd
  clear q1 q2
  generalize cmpL (S i) (S j) = z at *
  go_enter Yba.func45, Yba.ntmps45
  go_wp2_with fail
  refine T.mono ?_
  rintro e w1 ⟨rfl, q, rfl⟩
  clear T
  cases rev
  · go_wp2_with fail
    go_ret
    exact ⟨by rw [hr.out]; rfl, q, rfl⟩
  · go_wp2_with fail
    go_ret
    exact ⟨by rw [hr.out]; simp, q, rfl⟩
/-- What a closure that takes two keys makes and draws: blocks behind, draws. -/
theorem grow_alloc2 (w : World) (o1 o2 : Obj) (q : Nat) : ((w.alloc o1).alloc o2).drewN q = grow (w.drewN q) #[o1, o2] := by
  rw [alloc_eq_grow, alloc_eq_grow, grow_grow]
  rfl
set_option maxRecDepth 100000 in
/-- The closure that the sort is handed. -/
theorem less_any (rev : Bool) (S : Nat → List Int) (i j bc bx : Nat) (x y : Key) (w : World) (hbc : w.cell? ⟨bc, 0, none⟩ = some (.iface 26 (ptrV bx))) (hb : w.cell? ⟨bx, 0, none⟩ = some (.bool rev)) (q1 : BytesAt w x.sa x.sl (S i)) (q2 : BytesAt w y.sa y.sl (S j)) (s1 : x.sl ≤ 140737488351232) (s2 : y.sl ≤ 140737488351232) :
    Calls Yba.prog 16 #[.agg x.cells.toArray, .agg y.cells.toArray, ptrV bc] w fun e w' => e = .returned (.int .i64 (cmpR rev S i j)) ∧ ∃ q os, w' = grow (w.drewN q) os := by
  obtain ⟨x0, x1, x2, x3, x4, x5, x6, x7⟩ := x
  obtain ⟨y0, y1, y2, y3, y4, y5, y6, y7⟩ := y
  simp only [Key.cells] at *
  have hl1 := cell_lt' hbc
  have hl2 := cell_lt' hb
  have e1 : ∀ o1 o2, ((w.alloc o1).alloc o2).cell? ⟨bc, 0, none⟩ = some (.iface 26 (ptrV bx)) := fun o1 o2 => by
    rw [alloc_eq_grow, alloc_eq_grow, grow_grow, cell?_grow _ _ _ hl1]; exact hbc
  have e2 : ∀ o1 o2, ((w.alloc o1).alloc o2).cell? ⟨bx, 0, none⟩ = some (.bool rev) := fun o1 o2 => by
    rw [alloc_eq_grow, alloc_eq_grow, grow_grow, cell?_grow _ _ _ hl2]; exact hb
  have T := fun o1 o2 => compare_any rev S i j bx x2 x3 x4 y2 y3 y4 ((w.alloc o1).alloc o2) (e2 o1 o2) (q1.alloc2 o1 o2) (q2.alloc2 o1 o2) s1 s2
  have hm : ∀ w, Sem.run Yba.prog (method 200 26 (ptrV bx) "Compare") w = .ok (45, ptrV bx) w := fun w => by kernel_rfl
  clear q1 q2 hbc hb e2
  go_enter Yba.func16, Yba.ntmps16
  go_wp2_with fail
  refine (T _ _).mono ?_
  rintro e w' ⟨rfl, q, rfl⟩
  clear T e1 hm
  go_wp2_with fail
  go_ret
  exact ⟨rfl, q, _, grow_alloc2 _ _ _ _⟩
set_option maxRecDepth 100000 in
/-- The closure that slices.CompactFunc is handed. -/
theorem same_any (rev : Bool) (S : Nat → List Int) (i j bc bx : Nat) (x y : Key) (w : World) (hbc : w.cell? ⟨bc, 0, none⟩ = some (.iface 26 (ptrV bx))) (hb : w.cell? ⟨bx, 0, none⟩ = some (.bool rev)) (q1 : BytesAt w x.sa x.sl (S i)) (q2 : BytesAt w y.sa y.sl (S j)) (s1 : x.sl ≤ 140737488351232) (s2 : y.sl ≤ 140737488351232) :
    Calls Yba.prog 18 #[.agg x.cells.toArray, .agg y.cells.toArray, ptrV bc] w fun e w' => e = .returned (.bool (decide (S i = S j))) ∧ ∃ q os, w' = grow (w.drewN q) os := by
  obtain ⟨x0, x1, x2, x3, x4, x5, x6, x7⟩ := x
  obtain ⟨y0, y1, y2, y3, y4, y5, y6, y7⟩ := y
  simp only [Key.cells] at *
  have hl1 := cell_lt' hbc
  have hl2 := cell_lt' hb
  have e1 : ∀ o1 o2, ((w.alloc o1).alloc o2).cell? ⟨bc, 0, none⟩ = some (.iface 26 (ptrV bx)) := fun o1 o2 => by
    rw [alloc_eq_grow, alloc_eq_grow, grow_grow, cell?_grow _ _ _ hl1]; exact hbc
  have e2 : ∀ o1 o2, ((w.alloc o1).alloc o2).cell? ⟨bx, 0, none⟩ = some (.bool rev) := fun o1 o2 => by
    rw [alloc_eq_grow, alloc_eq_grow, grow_grow, cell?_grow _ _ _ hl2]; exact hb
  have T := fun o1 o2 => compare_any rev S i j bx x2 x3 x4 y2 y3 y4 ((w.alloc o1).alloc o2) (e2 o1 o2) (q1.alloc2 o1 o2) (q2.alloc2 o1 o2) s1 s2
  have hm : ∀ w, Sem.run Yba.prog (method 200 26 (ptrV bx) "Compare") w = .ok (45, ptrV bx) w := fun w => by kernel_rfl
  have hv0 : (cmpR rev S i j == 0) = decide (S i = S j) := by
    have := cmpR_zero rev S i j
    by_cases h : S i = S j
    · rw [this.2 h]; simp [h]
    · have h2 : cmpR rev S i j ≠ 0 := fun e => h (this.1 e)
      simp [h, h2]
  have hv : Hid ((cmpR rev S i j == 0) = decide (S i = S j)) := hv0
  clear hv0
  clear q1 q2 hbc hb e2
  generalize cmpR rev S i j = z at *
  go_enter Yba.func18, Yba.ntmps18
  go_wp2_with fail
  refine (T _ _).mono ?_
  rintro e w' ⟨rfl, q, rfl⟩
  clear T e1 hm
  go_wp2_with fail
  go_ret
  exact ⟨by rw [← hv.out]; rfl, q, _, grow_alloc2 _ _ _ _⟩
end Go.Proofs.Ybulkdkos
