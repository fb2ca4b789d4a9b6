/-
  LawS5578AWhole: the walk of the law itself.
-/
import Derived.Test.YbulkdkmoALeaves
import Derived.Lib.Builder
namespace Go.Proofs.Ybulkdkmo
open Go.ChangeShapes Go.WideShapes Go.ChangeAt Go.RowKit
theorem Yba.info54 : (Yba.prog.info? 54).map (fun i => (i.size)) = some (2) := by kernel_rfl
theorem lg_start (w1 : World) (k : Nat) : Lg w1.heap.size w1 (((w1.alloc (.cells #[.int .i64 k] 3)).alloc (.cells #[.slice none 0 0] 23)).alloc (.cells #[.int .i64 0] 3)) (w1.heap.size + 1) (w1.heap.size + 1 + 1) w1.heap.size k [] (.slice none 0 0) := by
  refine ⟨(((Below.refl _ _).alloc (Nat.le_refl _) _).alloc (by simp) _).alloc (by simp; omega) _, ?_, ?_, ((Blk.new _ _ _).alloc _).alloc _, World.ownsRow_nil _ _ _ _, by omega, by omega, Nat.le_refl _, by omega⟩
  · have := (Blk.new (w1.alloc (.cells #[.int .i64 k] 3)) #[.slice none 0 0] 23).alloc (.cells #[.int .i64 0] 3)
    simpa using this
  · have := Blk.new ((w1.alloc (.cells #[.int .i64 k] 3)).alloc (.cells #[.slice none 0 0] 23)) #[.int .i64 0] 3
    simpa using this
theorem own_below {B : Nat} {w w' : World} {base : Nat} {e : TypeId} {size : Nat} {v : Value} {n : Nat} {xs : List Value} (h : w.ownsRow base e size v n xs) (hb : Below B w w') (hB : w.heap.size ≤ B := by exact Nat.le_refl _) : w'.ownsRow base e size v n xs := by
  refine ⟨h.1, ?_⟩
  rcases h.2 with h | ⟨g, cap, cur, h1, h2, h3, h4⟩
  · exact .inl h
  · exact .inr ⟨g, cap, cur, h1, h2, by rw [hb.block g (Nat.lt_of_lt_of_le (Array.getElem?_eq_some_iff.1 h3).1 hB)]; exact h3, h4⟩
/-- What was logged: the first n leaves; n as the law reckons it. -/
theorem ended {ls : List Nat} {k : Nat} : ∃ n, n ≤ ls.length ∧ (took 0 ls k).length = n ∧ took 0 ls k = ls.take n ∧ ((okB 0 ls.length k = true ∧ (k = 0 ∨ ls.length < k) ∧ n = ls.length) ∨ (okB 0 ls.length k = false ∧ 0 < k ∧ k ≤ ls.length ∧ n = k)) := by
  by_cases h : okB 0 ls.length k = true
  · refine ⟨ls.length, Nat.le_refl _, by rw [took_ok h], by rw [took_ok h]; simp, .inl ⟨h, by simpa [okB] using h, rfl⟩⟩
  · have h' : okB 0 ls.length k = false := by simpa using h
    have hk : ¬ (k = 0 ∨ ls.length < k) := by simpa [okB] using h
    have e : took 0 ls k = ls.take k := by simp [took, h']
    exact ⟨k, by omega, by rw [e]; simp; omega, e, .inr ⟨h', by omega, by omega, rfl⟩⟩
theorem shape_pos {w : World} {base : Nat} {e : TypeId} {ao : Option Addr} {c n : Nat} {xs : List Value} (h : w.ownsRow base e 1 (.slice ao n c) n xs) (hn : 0 < n) : ∃ g, ao = some ⟨g, 0, none⟩ ∧ ∀ j u, xs[j]? = some u → w.cell? ⟨g, j, none⟩ = some u := by
  rcases h.2 with ⟨_, h⟩ | ⟨g, cap, cur, h1, _⟩
  · omega
  · simp only [Value.slice.injEq] at h1
    obtain ⟨rfl, _, rfl⟩ := h1
    refine ⟨g, rfl, fun j u hu => ?_⟩
    have := h.cells (g := g) rfl j u hu
    rwa [show (⟨g, 0, none⟩ : Addr).add j = ⟨g, j, none⟩ by unfold Addr.add; split <;> simp_all] at this
theorem rows_at {w : World} {ls : List Nat} {g1 g2 n j : Nat} (h : (∀ j u, (ls.map ptrV)[j]? = some u → w.cell? ⟨g1, j, none⟩ = some u) ∧ (∀ j u, ((ls.take n).map ptrV)[j]? = some u → w.cell? ⟨g2, j, none⟩ = some u)) (hj : j < n) (hn : n ≤ ls.length) :
    w.cell? ⟨g1, j, none⟩ = some (ptrV (ls.getD j 0)) ∧ w.cell? ⟨g2, j, none⟩ = some (ptrV (ls.getD j 0)) := by
  have hl : j < ls.length := by omega
  refine ⟨h.1 j _ ?_, h.2 j _ ?_⟩
  · simp [List.getD, hl]
  · simp [hj, hl]
set_option maxRecDepth 100000 in
set_option maxHeartbeats 1000000 in
theorem whole_walk (a0 : Option Addr) (len cap : Nat) (z : Int) (w : World) (hz0 : 0 ≤ z) (hz1 : z ≤ 255) (hlen : len ≤ 140737488351232)
    (hsp : 0 < len → ∃ b off, a0 = some ⟨b, off, none⟩ ∧ b < w.heap.size ∧ ∀ j, j < len → ∃ z : Int, w.cell? ⟨b, off + j, none⟩ = some (.int .u8 z) ∧ 0 ≤ z ∧ z ≤ 255) :
    Calls Yba.prog 3 #[.slice a0 len cap, .int .u8 z] w fun e w' => e = .returned (.bool true) ∧ Below w.heap.size w w' := by
  obtain ⟨k, rfl⟩ : ∃ k : Nat, z = k := ⟨z.toNat, by omega⟩
  have hst : St w.heap.size w ((w.alloc (.cells #[.slice none 0 0] 23)).alloc (.cells #[.int .i64 0] 3)) (w.heap.size + 1) w.heap.size 0 (.slice none 0 0) [] :=
    ⟨((Below.refl _ _).alloc (Nat.le_refl _) _).alloc (by simp) _, by simpa using Blk.new (w.alloc (.cells #[.slice none 0 0] 23)) #[.int .i64 0] 3, (Blk.new _ _ _).alloc _, World.ownsRow_nil _ _ _ _, by omega, Nat.le_refl _⟩
  have hb := fun dI wx hd hs => build_any w.heap.size w (w.heap.size + 1) w.heap.size a0 len cap hlen (by omega) hsp 4 (Nat.le_refl _) dI wx 0 (.slice none 0 0) [] hd hs (by decide) (Nat.zero_le _)
  have HB := hb 0 _ (by omega) hst
  clear hb hsp
  have HBB : Hid (Calls Yba.prog 7 #[.slice a0 len cap, ptrV (w.heap.size + 1), .int .i64 0, ptrV w.heap.size] ((w.alloc (.cells #[.slice none 0 0] 23)).alloc (.cells #[.int .i64 0] 3)) (Built w.heap.size w ((w.alloc (.cells #[.slice none 0 0] 23)).alloc (.cells #[.int .i64 0] 3)) (w.heap.size + 1) w.heap.size len 4 [])) := HB
  clear HB hst
  go_enter Yba.func3, Yba.ntmps3
  go_wp2_with fail
  refine HBB.out.mono ?_
  rintro e w1 ⟨p, i1, v1, ls, rfl, hi1, hs1, hl1, hk1, ht1, hz1⟩
  go_wp2_with fail
  have hlg : Lg w1.heap.size w1 (((w1.alloc (.cells #[.int .i64 k] 3)).alloc (.cells #[.slice none 0 0] 23)).alloc (.cells #[.int .i64 0] 3)) (w1.heap.size + 1) (w1.heap.size + 1 + 1) w1.heap.size k [] (.slice none 0 0) := lg_start w1 k
  refine (leaves_any w1.heap.size w1 (Nat.le_refl _) (w1.heap.size + 1) (w1.heap.size + 1 + 1) w1.heap.size k 4 _ [] _ p ls ⟨_, ht1⟩ hlg (by simp; omega) (by simp; omega)).mono ?_
  rintro e w2 ⟨v2, rfl, lg2, sz2⟩
  obtain ⟨n, hn, hlogl, hlg2, hcase⟩ := ended (ls := ls) (k := k)
  have hbel : Below w.heap.size w w2 := hs1.bel.trans (lg2.bel.mono (by have := hs1.bel.size; omega))
  have hwant := (hs1.ho.below lg2.bel hs1.ho.lt)
  have hwown := own_below hs1.own lg2.bel
  obtain ⟨ao1, cc1, rfl⟩ := owns_shape hs1.own
  obtain ⟨ao2, cc2, rfl⟩ := owns_shape lg2.own
  simp only [List.nil_append, List.length_nil] at *
  have d1 := hwant.cell (i := 0) (v := .slice ao1 ls.length cc1) (by rfl)
  have d2 := lg2.hl.cell (i := 0) (v := .slice ao2 (took 0 ls k).length cc2) (by rfl)
  have d3 := lg2.hk.cell (i := 0) (v := .int .i64 k) (by rfl)
  have hown2 := lg2.own
  rw [hlogl] at d2
  rw [hlogl, hlg2] at hown2
  generalize (took 0 ls k).length = nn at *
  obtain ⟨j54, hj54⟩ : ∃ j, Yba.prog.info? 54 = some j := by
    have := Yba.info54
    cases h : Yba.prog.info? 54 with
    | none => rw [h] at this; simp at this
    | some j => exact ⟨j, rfl⟩
  have hpp := fun wz a => Lib.run_neq_ptr_same (P := Yba.prog) wz (tp := 24) a Yba.underlying24 hj54
  have hnl : ls.length ≤ 1000 := by omega
  have HC : Hid (w2.ownsRow w.heap.size 24 1 (.slice ao1 ls.length cc1) ls.length (ls.map ptrV) ∧ w2.ownsRow w1.heap.size 24 1 (.slice ao2 n cc2) n ((ls.take n).map ptrV)) := ⟨hwown, hown2⟩
  have HD : Hid (Below w.heap.size w w2) := hbel
  clear lg2 hwant hs1 hlogl hlg2 hwown hown2 HBB hlg sz2 ht1 hk1 hz1 hi1 hj54 hbel
  by_cases hn0 : n = 0
  · subst hn0
    rcases hcase with ⟨hok, hkk, hl0⟩ | ⟨_, h, _, h'⟩
    · rw [hok]
      obtain rfl : ls = [] := List.eq_nil_of_length_eq_zero hl0.symm
      simp only [List.length_nil] at *
      clear hok hl0 hn hnl
      rcases hkk with rfl | hkk
      · go_wp2_with fail
        refine wp_loop_rounds 1 ?_
        rw [rounds_succ]
        go_wp2_with fail
        go_ret
        exact ⟨rfl, HD.out⟩
      · have t1 : ((k : Int) == 0) = false := by simp; omega
        go_wp2_with fail
        refine wp_loop_rounds 1 ?_
        rw [rounds_succ]
        go_wp2_with fail
        go_ret
        exact ⟨rfl, HD.out⟩
    · omega
  · obtain ⟨g2, rfl, hg2⟩ := shape_pos HC.out.2 (by omega)
    obtain ⟨g1, rfl, hg1⟩ := shape_pos HC.out.1 (by omega)
    have HE : Hid ((∀ j u, (ls.map ptrV)[j]? = some u → w2.cell? ⟨g1, j, none⟩ = some u) ∧ (∀ j u, ((ls.take n).map ptrV)[j]? = some u → w2.cell? ⟨g2, j, none⟩ = some u)) := ⟨hg1, hg2⟩
    have HN := hn
    clear HC hg1 hg2
    rcases hcase with ⟨hok, hkk, rfl⟩ | ⟨hok, hk0, hkl, rfl⟩
    · rw [hok]
      clear hok
      rcases hkk with rfl | hkk
      · go_wp2_with fail
        go_loopg [14] ls.length (fun g x wr => ∃ j mm : Nat, g = ls.length - j ∧ j ≤ ls.length ∧ x = .int .i64 j ∧ wr = w2.drewN mm)
        case atStart => exact ⟨0, 0, rfl, Nat.zero_le _, rfl, rfl⟩
        case round =>
          obtain ⟨j, mm, hg, hj, rfl, rfl⟩ := hrel
          have HG : Hid (gk = ls.length - j) := hg
          clear hg
          by_cases hlt : j < ls.length
          · obtain ⟨e1, e2⟩ := rows_at HE.out hlt HN
            go_wp2_with fail
            go_quiet (fail)
            go_wp2_with fail
            go_roundg (ls.length - (j + 1))
            case measure => have := HG.out; omega
            case rel => exact ⟨j + 1, _, rfl, by omega, by go_num, rfl⟩
          · go_wp2_with fail
            go_ret
            exact ⟨rfl, belowN HD.out _⟩
      · have t1 : ((k : Int) == 0) = false := by simp; omega
        go_wp2_with fail
        go_loopg [14] ls.length (fun g x wr => ∃ j mm : Nat, g = ls.length - j ∧ j ≤ ls.length ∧ x = .int .i64 j ∧ wr = w2.drewN mm)
        case atStart => exact ⟨0, 0, rfl, Nat.zero_le _, rfl, rfl⟩
        case round =>
          obtain ⟨j, mm, hg, hj, rfl, rfl⟩ := hrel
          have HG : Hid (gk = ls.length - j) := hg
          clear hg
          by_cases hlt : j < ls.length
          · obtain ⟨e1, e2⟩ := rows_at HE.out hlt HN
            go_wp2_with fail
            go_quiet (fail)
            go_wp2_with fail
            go_roundg (ls.length - (j + 1))
            case measure => have := HG.out; omega
            case rel => exact ⟨j + 1, _, rfl, by omega, by go_num, rfl⟩
          · go_wp2_with fail
            go_ret
            exact ⟨rfl, belowN HD.out _⟩
    · rw [hok]
      clear hok
      have t1 : ((n : Int) == 0) = false := by simp; omega
      have t2 : decide (ls.length < n) = false := by simp; omega
      go_wp2_with fail
      go_loopg [14] n (fun g x wr => ∃ j mm : Nat, g = n - j ∧ j ≤ n ∧ x = .int .i64 j ∧ wr = w2.drewN mm)
      case atStart => exact ⟨0, 0, rfl, Nat.zero_le _, rfl, rfl⟩
      case round =>
        obtain ⟨j, mm, hg, hj, rfl, rfl⟩ := hrel
        have HG : Hid (gk = n - j) := hg
        clear hg
        by_cases hlt : j < n
        · obtain ⟨e1, e2⟩ := rows_at HE.out hlt HN
          go_wp2_with fail
          go_quiet (fail)
          go_wp2_with fail
          go_roundg (n - (j + 1))
          case measure => have := HG.out; omega
          case rel => exact ⟨j + 1, _, rfl, by omega, by go_num, rfl⟩
        · go_wp2_with fail
          go_ret
          exact ⟨rfl, belowN HD.out _⟩
end Go.Proofs.Ybulkdkmo
