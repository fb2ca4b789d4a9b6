/-
  LawS5582AWhole: slices.insertionSortCmpFunc (by the shelf), stableCmpFunc and SortStableFunc, walked.
-/
import Derived.Test.YbulkdkosASym
import Derived.Test.YbulkdkosShelf
namespace Go.Proofs.Ybulkdkos
open Go.RowKit Go.Sort Go.Proofs Go.Lib
set_option linter.unusedVariables false
theorem cmpLays_on {E : Nat → Key} {c : Nat → Nat → Int} {W0 : World} {g bc : Nat} {d : Array Nat} {w : World} {size : Nat} (hg : g < W0.heap.size) (hs : d.size = size) (hC : CmpLays Yba.prog 16 #[ptrV bc] (encE E) 4 c g 0 size W0) (hS : SWK (encE E) 4 W0 g 0 d w) : CmpLays Yba.prog 16 #[ptrV bc] (encE E) 4 c g 0 size w := by
  intro m os dk hdk x y
  obtain ⟨m', os', e⟩ := hS.on hg m dk os (by omega)
  rw [e]
  exact hC m' os' dk hdk x y
theorem eg16 : ∀ args w, (callFunc 16 args).run Yba.prog w = .ok (.enter 16 args) w := enters_of Yba.func16 (by kernel_rfl) rfl
/-- slices.insertionSortCmpFunc, by the shelf. -/
theorem ins_any (E : Nat → Key) (c : Nat → Nat → Int) (O : Ord c) (g n cap a b bc : Nat) (W0 : World) (d0 d : Array Nat) (w : World) (hH : HoldsK (encE E) 4 W0 g 0 d0) (hg : g < W0.heap.size) (hC : CmpLays Yba.prog 16 #[ptrV bc] (encE E) 4 c g 0 d0.size W0) (hn : d.size = n) (hs : d.size = d0.size) (hS : SWK (encE E) 4 W0 g 0 d w) (hsz : n ≤ 1000000) (h1 : a ≤ b) (h2 : b ≤ n) (hx : ∀ p q, a ≤ p → p < q → q < b → d[p]! < d[q]!) :
    Calls Yba.prog 24 #[.slice (some ⟨g, 0, none⟩) n cap, .int .i64 a, .int .i64 b, cmpV bc] w fun e w' => e = .returned (.tuple #[]) ∧ ∃ d', SWK (encE E) 4 W0 g 0 d' w' ∧ Mg c d d' a b := by
  subst hn
  have h := AnyQ.insertionSortCmpFunc Yba.insL 4 Yba.isAgg33 Yba.sizeOf33 (encE E) (encE_len E) (encE_one E) c 16 #[ptrV bc] g 0 cap a b d w eg16 (by rw [hs]; exact cmpLays_on hg hs hC hS) (hS.holds hg hH hs) (hS.lt hg) h1 h2 (by omega)
  refine h.mono ?_
  rintro e w' ⟨rfl, m, os, rfl⟩
  have hm := insertion_mg O h1 h2 hx
  exact ⟨rfl, _, hS.on hg m _ os hm.out.1, hm⟩
set_option maxRecDepth 100000 in
set_option maxHeartbeats 2000000 in
theorem stable_any (E : Nat → Key) (c : Nat → Nat → Int) (O : Ord c) (g n cap bc : Nat) (W0 : World) (d : Array Nat) (hH : HoldsK (encE E) 4 W0 g 0 d) (hg : g < W0.heap.size) (hC : CmpLays Yba.prog 16 #[ptrV bc] (encE E) 4 c g 0 d.size W0) (hn : d.size = n) (hsz : n ≤ 4096) (hx : ∀ p q, p < q → q < n → d[p]! < d[q]!) :
    Calls Yba.prog 22 #[.slice (some ⟨g, 0, none⟩) n cap, .int .i64 n, cmpV bc] W0 fun e w' => e = .returned (.tuple #[]) ∧ ∃ d', SWK (encE E) 4 W0 g 0 d' w' ∧ Mg c d d' 0 n := by
  have HH : Hid (HoldsK (encE E) 4 W0 g 0 d) := hH
  have HC : Hid (CmpLays Yba.prog 16 #[ptrV bc] (encE E) 4 c g 0 d.size W0) := hC
  have HX : Hid (∀ p q, p < q → q < n → d[p]! < d[q]!) := hx
  clear hH hC hx
  go_enter Yba.func22, Yba.ntmps22
  go_wp2_with fail
  go_loopg [7, 8] n (fun g' va vb wr => ∃ a : Nat, n - a ≤ g' ∧ a ≤ n ∧ va = .int .i64 a ∧ vb = .int .i64 ((a + 20 : Nat) : Int) ∧ ∃ d1, SWK (encE E) 4 W0 g 0 d1 wr ∧ First c d d1 n a)
  case atStart => exact ⟨0, by omega, by omega, rfl, rfl, d, SWK.start HH.out, First.start HX.out⟩
  case round =>
    obtain ⟨a, hga, han, rfl, rfl, d1, hS1, hF1⟩ := hrel
    have hd1 : d1.size = n := hF1.size.trans hn
    by_cases hlt : a + 20 ≤ n
    · have T := ins_any E c O g n cap a (a + 20) bc W0 d d1 wr HH.out hg HC.out hd1 (by omega) hS1 (by omega) (by omega) hlt (fun p q k1 k2 k3 => hF1.todo p q k1 k2 (by omega))
      have HF1 : Hid (First c d d1 n a) := hF1
      obtain ⟨b, hb⟩ : ∃ b, a + 20 = b := ⟨_, rfl⟩
      rw [hb] at T hlt ⊢
      have HB : Hid (a + 20 = b) := hb
      have hb1 : b ≤ a + 20 := by omega
      have hb2 : a + 20 ≤ b := by omega
      clear hF1 hb
      go_wp2_with fail
      refine T.mono ?_
      rintro e w1 ⟨rfl, d2, hS2, hM2⟩
      have HM2 : Hid (Mg c d1 d2 a b) := hM2
      clear hM2 T
      go_wp2_with fail
      go_roundg (n - b)
      case measure => omega
      case rel => exact ⟨b, by omega, hlt, rfl, by go_num, d2, hS2, by rw [← HB.out]; exact HF1.out.step (by omega) (by rw [HB.out]; exact HM2.out)⟩
    · have T := ins_any E c O g n cap a n bc W0 d d1 wr HH.out hg HC.out hd1 (by omega) hS1 (by omega) han (Nat.le_refl _) (fun p q k1 k2 k3 => hF1.todo p q k1 k2 (by omega))
      have HF1 : Hid (First c d d1 n a) := hF1
      clear hF1
      go_wp2_with fail
      refine T.mono ?_
      rintro e w1 ⟨rfl, d2, hS2, hM2⟩
      have HB2 : Hid (Blocks c d2 n 20 ∧ Sm d d2 0 n ∧ Out d d2 0 n) := HF1.out.finish han (by omega) hM2
      clear hM2 T HF1
      go_wp2_with fail
      go_loopg [6] n (fun g' vB wr => ∃ B : Nat, 0 < B ∧ B ≤ 10000 ∧ n - B ≤ g' ∧ vB = .int .i64 B ∧ ∃ d3, SWK (encE E) 4 W0 g 0 d3 wr ∧ Blocks c d3 n B ∧ Sm d d3 0 n ∧ Out d d3 0 n)
      case atStart => exact ⟨20, by omega, by omega, by omega, rfl, d2, hS2, HB2.out⟩
      case round =>
        obtain ⟨B, hB0, hB1, hgB, rfl, d3, hS3, hBl, hSm, hOut⟩ := hrel
        by_cases hBn : B < n
        · have HQ : Hid (Blocks c d3 n B ∧ Sm d d3 0 n ∧ Out d d3 0 n) := ⟨hBl, hSm, hOut⟩
          clear hBl hSm hOut HB2
          go_wp2_with fail
          go_loopg [7, 8] n (fun g' va vb wr => ∃ a : Nat, n - a ≤ g' ∧ va = .int .i64 a ∧ vb = .int .i64 ((a + 2 * B : Nat) : Int) ∧ ∃ d4, SWK (encE E) 4 W0 g 0 d4 wr ∧ Half c d4 n B a ∧ Sm d d4 0 n ∧ Out d d4 0 n)
          case atStart => exact ⟨0, by omega, rfl, by congr 1; omega, d3, hS3, Half.start HQ.out.1, HQ.out.2⟩
          case round =>
            obtain ⟨a', hga', rfl, rfl, d4, hS4, hHf, hSm4, hOut4⟩ := hrel
            have hd4 : d4.size = n := hOut4.1.trans hn
            obtain ⟨m1, hm1⟩ : ∃ m1, a' + B = m1 := ⟨_, rfl⟩
            obtain ⟨b1, hb1⟩ : ∃ b1, a' + 2 * B = b1 := ⟨_, rfl⟩
            have hmz : (a' : Int) + (B : Int) = (m1 : Int) := by omega
            have q1 : a' < m1 := by omega
            have q2 : m1 < b1 := by omega
            have q3 : b1 ≤ a' + 2 * B := by omega
            have q4 : a' + 2 * B ≤ b1 := by omega
            have han' : a' ≤ n := hHf.an
            have HM1 : Hid (a' + B = m1) := hm1
            have HB1 : Hid (a' + 2 * B = b1) := hb1
            have HS4 : Hid (SWK (encE E) 4 W0 g 0 d4 wr) := hS4
            have HF : Hid (Half c d4 n B a' ∧ Sm d d4 0 n ∧ Out d d4 0 n) := ⟨hHf, hSm4, hOut4⟩
            rw [hb1]
            clear hm1 hb1 hHf hSm4 hOut4 hS4
            by_cases hle : b1 ≤ n
            · have hP := HF.out.1.pre (b := b1) (by have := HB1.out; omega)
              rw [show min (a' + B) n = m1 by have := HM1.out; omega] at hP
              have T := sym_any E c O g n cap bc W0 d HH.out hg HC.out hn (by omega) (n + 1) a' m1 b1 d4 wr (by omega) hd4 HS4.out q1 q2 hle hP
              clear hP
              go_wp2_with fail
              refine T.mono ?_
              rintro e w2 ⟨rfl, d5, hS5, hM5⟩
              have HM5 : Hid (Mg c d4 d5 a' b1) := hM5
              clear hM5 T
              go_wp2_with fail
              go_roundg (n - b1)
              case measure => omega
              case rel =>
                obtain ⟨f1, f2, f3⟩ := HF.out
                have hM5 := HM5.out
                refine ⟨b1, by omega, rfl, by first | (congr 1; done) | (congr 1; omega), d5, hS5, ?_, f2.trans (hM5.sm.wide hM5.out (Nat.zero_le _) hle), f3.trans (hM5.out.wide (Nat.zero_le _) hle)⟩
                have e1 := HB1.out
                rw [← e1] at hM5 ⊢
                exact f1.step hB0 (by omega) hM5
            · have FIN : Hid (∀ d5, Mg c d4 d5 a' n → Blocks c d5 n (2 * B) ∧ Sm d d5 0 n ∧ Out d d5 0 n) := fun d5 hM5 => by
                obtain ⟨f1, f2, f3⟩ := HF.out
                exact ⟨f1.finish hB0 (by omega) hM5, f2.trans (hM5.sm.wide hM5.out (Nat.zero_le _) (Nat.le_refl _)), f3.trans (hM5.out.wide (Nat.zero_le _) (Nat.le_refl _))⟩
              have hP := HF.out.1.pre (b := n) (by have := HB1.out; omega)
              by_cases hmn : m1 < n
              · rw [show min (a' + B) n = m1 by have := HM1.out; omega] at hP
                have T := sym_any E c O g n cap bc W0 d HH.out hg HC.out hn (by omega) (n + 1) a' m1 n d4 wr (by omega) hd4 HS4.out q1 hmn (Nat.le_refl _) hP
                clear hP
                go_wp2_with fail
                refine T.mono ?_
                rintro e w2 ⟨rfl, d5, hS5, hM5⟩
                have HM5 : Hid (Mg c d4 d5 a' n) := hM5
                clear hM5 T
                go_wp2_with fail
                go_roundg (n - 2 * B)
                case measure => omega
                case rel => exact ⟨2 * B, by omega, by omega, by omega, by congr 1; omega, d5, hS5, FIN.out d5 HM5.out⟩
              · have HT : Hid (Mg c d4 d4 a' n) := Mg.triv hP (by have := HM1.out; omega)
                clear hP
                go_wp2_with fail
                go_roundg (n - 2 * B)
                case measure => omega
                case rel => exact ⟨2 * B, by omega, by omega, by omega, by congr 1; omega, d4, HS4.out, FIN.out d4 HT.out⟩
        · go_wp2_with fail
          go_end0
          exact ⟨rfl, d3, hS3, hOut, hSm, hBl.all (by omega)⟩
set_option maxRecDepth 100000 in
/-- slices.SortStableFunc. -/
theorem sortStable_any (E : Nat → Key) (c : Nat → Nat → Int) (O : Ord c) (g n cap bc : Nat) (W0 : World) (d : Array Nat) (hH : HoldsK (encE E) 4 W0 g 0 d) (hg : g < W0.heap.size) (hC : CmpLays Yba.prog 16 #[ptrV bc] (encE E) 4 c g 0 d.size W0) (hn : d.size = n) (hsz : n ≤ 4096) (hx : ∀ p q, p < q → q < n → d[p]! < d[q]!) :
    Calls Yba.prog 15 #[.slice (some ⟨g, 0, none⟩) n cap, cmpV bc] W0 fun e w' => e = .returned (.tuple #[]) ∧ ∃ d', SWK (encE E) 4 W0 g 0 d' w' ∧ Mg c d d' 0 n := by
  have T := stable_any E c O g n cap bc W0 d hH hg hC hn hsz hx
  clear hH hC hx
  go_enter Yba.func15, Yba.ntmps15
  go_wp2_with fail
  refine T.mono ?_
  rintro e w' ⟨rfl, d', hS, hM⟩
  have H : Hid (SWK (encE E) 4 W0 g 0 d' w' ∧ Mg c d d' 0 n) := ⟨hS, hM⟩
  clear hS hM T
  go_wp2_with fail
  go_end0
  exact ⟨rfl, d', H.out⟩
end Go.Proofs.Ybulkdkos
