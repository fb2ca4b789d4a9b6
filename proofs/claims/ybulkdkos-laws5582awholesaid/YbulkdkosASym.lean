/-
  LawS5582AWhole: slices.symMergeCmpFunc, walked.
-/
import Derived.Test.YbulkdkosASym1
import Derived.Deep.DeepCutAuto
namespace Go.Proofs.Ybulkdkos
open Go.RowKit Go.Sort Go.Proofs
set_option linter.unusedVariables false
set_option maxRecDepth 100000 in
set_option maxHeartbeats 2000000 in
/-- slices.symMergeCmpFunc: two runs in order, the places of the one below those of the other: one run in order. -/
theorem sym_any (E : Nat → Key) (c : Nat → Nat → Int) (O : Ord c) (g n cap bc : Nat) (W0 : World) (d0 : Array Nat) (hH : HoldsK (encE E) 4 W0 g 0 d0) (hg : g < W0.heap.size) (hC : CmpLays Yba.prog 16 #[ptrV bc] (encE E) 4 c g 0 d0.size W0) (hs0 : d0.size = n) (hsz : n ≤ 1000000) :
    ∀ (N a m b : Nat) (d : Array Nat) (w : World), b - a < N → d.size = n → SWK (encE E) 4 W0 g 0 d w → a < m → m < b → b ≤ n → Pre c d a m b →
    Calls Yba.prog 25 #[.slice (some ⟨g, 0, none⟩) n cap, .int .i64 a, .int .i64 m, .int .i64 b, cmpV bc] w fun e w' => e = .returned (.tuple #[]) ∧ ∃ d', SWK (encE E) 4 W0 g 0 d' w' ∧ Mg c d d' a b := by
  have mx := mixed
  intro N
  induction N with
  | zero => intro a m b d w h; omega
  | succ N ih =>
    intro a m b d w hN hn hS h1 h2 h3 hP
    by_cases c1 : m ≤ a + 1
    · exact sym_left E c O g n cap a m b bc W0 d0 d w hH hg hC hn (by omega) hS hsz h1 c1 h2 h3 hP
    by_cases c2 : b ≤ m + 1
    · exact sym_right E c O g n cap a m b bc W0 d0 d w hH hg hC hn (by omega) hS hsz h2 c2 (by omega) h3 hP
    have HH : Hid (HoldsK (encE E) 4 W0 g 0 d0) := hH
    have HC : Hid (CmpLays Yba.prog 16 #[ptrV bc] (encE E) 4 c g 0 d0.size W0) := hC
    have HS : Hid (SWK (encE E) 4 W0 g 0 d w) := hS
    have HP : Hid (Pre c d a m b) := hP
    have IH : Hid (∀ (a m b : Nat) (d : Array Nat) (w : World), b - a < N → d.size = n → SWK (encE E) 4 W0 g 0 d w → a < m → m < b → b ≤ n → Pre c d a m b →
      Calls Yba.prog 25 #[.slice (some ⟨g, 0, none⟩) n cap, .int .i64 a, .int .i64 m, .int .i64 b, cmpV bc] w fun e w' => e = .returned (.tuple #[]) ∧ ∃ d', SWK (encE E) 4 W0 g 0 d' w' ∧ Mg c d d' a b) := ih
    clear hH hC hS hP ih
    have q1 : ((m : Int) - (a : Int) == 1) = false := by simp; omega
    have q2 : ((b : Int) - (m : Int) == 1) = false := by simp; omega
    obtain ⟨mid, hmid0⟩ : ∃ mid : Nat, mid = (a + b) / 2 := ⟨_, rfl⟩
    have HM : Hid (mid = (a + b) / 2) := hmid0
    have hmid : ((a : Int) + (b : Int)) / 2 = (mid : Int) := by omega
    have hmid1 : a < mid := by omega
    have hmid2 : mid < b := by omega
    have hmid3 : 2 * mid ≤ a + b := by omega
    have hmid4 : a + b ≤ 2 * mid + 1 := by omega
    clear hmid0
    -- the two ends of the search
    obtain ⟨s0, r0, hs0', hr0⟩ : ∃ s0 r0 : Nat, s0 = (if mid < m then mid + m - b else a) ∧ r0 = (if mid < m then mid else m) := ⟨_, _, rfl, rfl⟩
    have HS0 : Hid (s0 = (if mid < m then mid + m - b else a) ∧ r0 = (if mid < m then mid else m)) := ⟨hs0', hr0⟩
    have hsr : s0 ≤ r0 ∧ a ≤ s0 ∧ r0 ≤ m ∧ r0 ≤ mid ∧ m + s0 ≤ mid + m ∧ (∀ t, s0 ≤ t → t < r0 → m ≤ mid + m - 1 - t ∧ mid + m - 1 - t < b) := by
      split at hs0' <;> split at hr0 <;> refine ⟨by omega, by omega, by omega, by omega, by omega, fun t t1 t2 => by omega⟩
    obtain ⟨hsr1, hsr2, hsr3, hsr4, hsr5, hsr6⟩ := hsr
    have HSR : Hid (∀ t, s0 ≤ t → t < r0 → m ≤ mid + m - 1 - t ∧ mid + m - 1 - t < b) := hsr6
    clear hsr6
    go_enter Yba.func25, Yba.ntmps25
    go_upto_if 140 with fail
    go_cut [20, 21] (fun vs vr wx => vs = .int .i64 s0 ∧ vr = .int .i64 r0 ∧ w = wx)
    case first =>
      as_aux_lemma =>
        by_cases hbig : mid < m
        · have es : s0 = mid + m - b := by rw [hs0', if_pos hbig]
          have er : r0 = mid := by rw [hr0, if_pos hbig]
          clear hs0' hr0
          go_wp2_with fail
          go_meet
          case rel => exact ⟨by congr 1; omega, by rw [er], rfl⟩
        · have es : s0 = a := by rw [hs0', if_neg hbig]
          have er : r0 = m := by rw [hr0, if_neg hbig]
          clear hs0' hr0
          go_wp2_with fail
          go_meet
          case rel => exact ⟨by rw [es], by rw [er], rfl⟩
    case rest =>
      as_aux_lemma =>
        obtain ⟨rfl, rfl, rfl⟩ := hcut
        clear hs0' hr0
        go_wp2_with fail
        go_loopg [20, 21] (b - a) (fun g' vs vr wr => ∃ s r : Nat, r - s ≤ g' ∧ s0 ≤ s ∧ s ≤ r ∧ r ≤ r0 ∧ vs = .int .i64 s ∧ vr = .int .i64 r ∧ SWK (encE E) 4 W0 g 0 d wr ∧ (∀ t, s0 ≤ t → t < s → ¬ c d[mid + m - 1 - t]! d[t]! < 0) ∧ (r < r0 → c d[mid + m - 1 - r]! d[r]! < 0))
        case atStart => exact ⟨s0, r0, by omega, by omega, by omega, by omega, rfl, rfl, HS.out, fun t t1 t2 => absurd t2 (by omega), fun h => absurd h (by omega)⟩
        case round =>
          obtain ⟨s, r, hg', hs1, hs2, hs3, rfl, rfl, hSk, hlo, hhi⟩ := hrel
          have HSk : Hid (SWK (encE E) 4 W0 g 0 d wr) := hSk
          have HX : Hid ((∀ t, s0 ≤ t → t < s → ¬ c d[mid + m - 1 - t]! d[t]! < 0) ∧ (r < r0 → c d[mid + m - 1 - r]! d[r]! < 0)) := ⟨hlo, hhi⟩
          clear hSk hlo hhi
          by_cases hlt : s < r
          · obtain ⟨h, hh⟩ : ∃ h : Nat, h = (s + r) / 2 := ⟨_, rfl⟩
            have hh1 : s ≤ h ∧ h < r := by omega
            obtain ⟨hh2, hh3⟩ := hh1
            have hmidz : ((s : Int) + (r : Int)) / 2 = (h : Int) := by omega
            obtain ⟨k, hk⟩ : ∃ k : Nat, k = mid + m - 1 - h := ⟨_, rfl⟩
            have hkb := HSR.out h (by omega) (by omega)
            have hkz : (mid : Int) + (m : Int) - 1 - (h : Int) = (k : Int) := by omega
            rw [← hk] at hkb
            obtain ⟨hk1, hk2⟩ := hkb
            have K := cmp2_of (E := E) (i := k) (j := h) HH.out hg (by omega) HC.out HSk.out (by omega) (by omega)
            obtain ⟨a0, a1, a2, a3, b0, b1, b2, b3, call⟩ := K
            have HK : Hid (k = mid + m - 1 - h) := hk
            clear hh hk
            obtain ⟨z, hz⟩ : ∃ z, c d[k]! d[h]! = z := ⟨_, rfl⟩
            rw [hz] at call
            generalize E d[k]! = x at *
            generalize E d[h]! = y at *
            have HZ : Hid (c d[k]! d[h]! = z) := hz
            clear hz
            have hb1 : (h : Int) < (n : Int) := by omega
            have hb2 : (k : Int) < (n : Int) := by omega
            have hwk : IntKind.i64.wrap (k : Int) = (k : Int) := by rw [IntKind.wrap_i64]; omega
            go_wp2_with fail
            clear hmidz
            by_cases hc : z < 0
            ·
              as_aux_lemma =>
                have hcb : decide (z < 0) = true := by simpa using hc
                go_quiet_grown (first | (go_at_call 16; refine Calls.grown_of (call _ _)))
                clear a0 a1 a2 a3 b0 b1 b2 b3 call
                go_wp2_with fail
                go_roundg (h - s)
                case measure => omega
                case rel => exact ⟨s, h, by omega, hs1, by omega, by omega, rfl, rfl, HSk.out.grown nq osq, (fun t t1 t2 => by have := HX.out.1 t t1 t2; omega), fun _ => by rw [← HK.out, HZ.out]; omega⟩
            ·
              as_aux_lemma =>
                have hcb : decide (z < 0) = false := by simpa using hc
                go_quiet_grown (first | (go_at_call 16; refine Calls.grown_of (call _ _)))
                clear a0 a1 a2 a3 b0 b1 b2 b3 call
                go_wp2_with fail
                go_roundg (r - (h + 1))
                case measure => omega
                case rel =>
                  refine ⟨h + 1, r, by omega, by omega, by omega, hs3, by go_num, rfl, HSk.out.grown nq osq, fun t t1 t2 => ?_, HX.out.2⟩
                  by_cases p : t = h
                  · subst p; rw [← HK.out, HZ.out]; omega
                  · refine Int.not_lt.1 fun hlt' => ?_
                    have hr1 := HSR.out t t1 (by omega)
                    have e1 := lt_left O (HP.out.r k (mid + m - 1 - t) hk1 (by have := HK.out; omega) hr1.2) hlt'
                    have e2 := lt_right O (HP.out.l t h (by omega) (by omega) (by omega)) e1
                    rw [HZ.out] at e2
                    omega
          · obtain rfl : s = r := by omega
            obtain ⟨e, he0⟩ : ∃ e : Nat, e = mid + m - s := ⟨_, rfl⟩
            have hbd : a ≤ s ∧ s ≤ m ∧ m ≤ e ∧ e ≤ b ∧ s ≤ mid ∧ mid ≤ e := by
              obtain ⟨x1, x2⟩ := HS0.out
              split at x1 <;> split at x2 <;> omega
            obtain ⟨k1, k2, k3, k4, k5, k6⟩ := hbd
            have CUT : Hid (∀ d1, Rot d d1 s m e → Pre c d1 a s mid ∧ Pre c d1 mid e b ∧ ∀ i j, a ≤ i → i < mid → mid ≤ j → j < b → Prec c d1[i]! d1[j]!) := fun d1 hR => by
              obtain ⟨x1, x2⟩ := HS0.out
              obtain ⟨_, _, _, _, _, _, y1, y2, y3⟩ := sym_cut O HP.out h1 h2 HM.out he0 (by rw [← x1]; exact hs1) (by rw [← x2]; exact hs3) (by rw [← x1]; intro t t1 t2; have := HX.out.1 t t1 t2; omega) (by rw [← x2]; exact HX.out.2) hR
              exact ⟨y1, y2, y3⟩
            have hez : (mid : Int) + (m : Int) - (s : Int) = (e : Int) := by omega
            have HE0 : Hid (e = mid + m - s) := he0
            clear he0
            go_upto_region 39 with fail
            go_cut [185] (fun v wx => v = .bool (decide (s < m ∧ m < e)) ∧ wr = wx)
            case first =>
              as_aux_lemma =>
                by_cases p : s < m
                · by_cases p2 : m < e
                  · go_wp2_with fail
                    go_meet
                    case rel => exact ⟨by rw [decide_eq_true (show s < m ∧ m < e from ⟨p, p2⟩)], rfl⟩
                  · go_wp2_with fail
                    go_meet
                    case rel => exact ⟨by rw [decide_eq_false (show ¬ (s < m ∧ m < e) by omega)], rfl⟩
                · go_wp2_with fail
                  go_meet
                  case rel => exact ⟨by rw [decide_eq_false (show ¬ (s < m ∧ m < e) by omega)], rfl⟩
            case rest =>
              as_aux_lemma =>
                obtain ⟨rfl, rfl⟩ := hcut
                go_upto_if 185 with fail
                go_cut [] (fun wx => ∃ d1, SWK (encE E) 4 W0 g 0 d1 wx ∧ Rot d d1 s m e)
                case first =>
                  as_aux_lemma =>
                    by_cases hrot : s < m ∧ m < e
                    · have T := rotate_any E g n cap s m e (cmpV bc) W0 d0 d wr HH.out hg hn (by omega) HSk.out hsz hrot.1 hrot.2 (by omega)
                      rw [decide_eq_true hrot]
                      go_wp2_with fail
                      refine T.mono ?_
                      rintro ex w1 ⟨rfl, d1, hS1, hR1⟩
                      have HR1 : Hid (Rot d d1 s m e) := hR1
                      clear hR1 T
                      go_wp2_with fail
                      go_meet
                      case rel => exact ⟨d1, hS1, HR1.out⟩
                    · have htr := Rot.triv d (a := s) (m := m) (b := e) k2 k3 (by omega)
                      have HTR : Hid (Rot d d s m e) := htr
                      rw [decide_eq_false hrot]
                      clear htr hrot
                      go_wp2_with fail
                      go_meet
                      case rel => exact ⟨d, HSk.out, HTR.out⟩
                case rest =>
                  as_aux_lemma =>
                    obtain ⟨d1, hS1, hR1⟩ := hcut
                    have hd1 : d1.size = n := hR1.size.trans hn
                    obtain ⟨y1, y2, y3⟩ := CUT.out d1 hR1
                    have HY : Hid (Rot d d1 s m e ∧ Pre c d1 a s mid ∧ Pre c d1 mid e b ∧ ∀ i j, a ≤ i → i < mid → mid ≤ j → j < b → Prec c d1[i]! d1[j]!) := ⟨hR1, y1, y2, y3⟩
                    have HS1 : Hid (SWK (encE E) 4 W0 g 0 d1 wc) := hS1
                    clear CUT y1 y2 y3 hR1 hS1
                    obtain ⟨w1, hw1⟩ : ∃ w1, w1 = wc := ⟨_, rfl⟩
                    subst hw1
                    go_upto_region 41 with fail
                    go_cut [199] (fun v wx => v = .bool (decide (a < s ∧ s < mid)) ∧ w1 = wx)
                    case first =>
                      as_aux_lemma =>
                        by_cases p : a < s
                        · by_cases p2 : s < mid
                          · go_wp2_with fail
                            go_meet
                            case rel => exact ⟨by rw [decide_eq_true (show a < s ∧ s < mid from ⟨p, p2⟩)], rfl⟩
                          · go_wp2_with fail
                            go_meet
                            case rel => exact ⟨by rw [decide_eq_false (show ¬ (a < s ∧ s < mid) by omega)], rfl⟩
                        · go_wp2_with fail
                          go_meet
                          case rel => exact ⟨by rw [decide_eq_false (show ¬ (a < s ∧ s < mid) by omega)], rfl⟩
                    case rest =>
                      as_aux_lemma =>
                        obtain ⟨rfl, rfl⟩ := hcut
                        go_upto_if 199 with fail
                        go_cut [] (fun wx => ∃ d2, SWK (encE E) 4 W0 g 0 d2 wx ∧ Mg c d1 d2 a mid)
                        case first =>
                          as_aux_lemma =>
                            by_cases hl : a < s ∧ s < mid
                            · have T := IH.out a s mid d1 w1 (by omega) hd1 HS1.out hl.1 hl.2 (by omega) HY.out.2.1
                              rw [decide_eq_true hl]
                              go_wp2_with fail
                              refine T.mono ?_
                              rintro ex w2 ⟨rfl, d2, hS2, hM2⟩
                              have HM2 : Hid (Mg c d1 d2 a mid) := hM2
                              clear hM2 T
                              go_wp2_with fail
                              go_meet
                              case rel => exact ⟨d2, hS2, HM2.out⟩
                            · rw [decide_eq_false hl]
                              have hl' : s ≤ a ∨ mid ≤ s := by omega
                              clear hl
                              go_wp2_with fail
                              go_meet
                              case rel => exact ⟨d1, HS1.out, Mg.triv HY.out.2.1 hl'⟩
                        case rest =>
                          as_aux_lemma =>
                            obtain ⟨d2, hS2, hM2⟩ := hcut
                            have hd2 : d2.size = n := hM2.out.1.trans hd1
                            have hP2 : Pre c d2 mid e b := by
                              obtain ⟨_, _, y2, _⟩ := HY.out
                              refine ⟨y2.l.of_out hM2.out (by omega), y2.r.of_out hM2.out (by omega), fun i j i1 i2 j1 j2 => ?_⟩
                              rw [hM2.out.2 i (by omega), hM2.out.2 j (by omega)]
                              exact y2.x i j i1 i2 j1 j2
                            have FIN : Hid (∀ d3, Mg c d2 d3 mid b → Mg c d d3 a b) := fun d3 h3' => by
                              obtain ⟨yr, y1, y2, y3⟩ := HY.out
                              exact Mg.join O (by omega) (by omega) (yr.isOut.wide k1 k4) ((yr.sm k2 k3).wide yr.isOut k1 k4) y3 hM2 h3'
                            have HS2 : Hid (SWK (encE E) 4 W0 g 0 d2 wc) := hS2
                            have HP2 : Hid (Pre c d2 mid e b) := hP2
                            clear hS2 hP2 hM2 HY HS1
                            by_cases hl : mid < e
                            · by_cases hr : e < b
                              · have T := IH.out mid e b d2 wc (by omega) hd2 HS2.out hl hr (by omega) HP2.out
                                go_wp2_with fail
                                refine T.mono ?_
                                rintro ex w3 ⟨rfl, d3, hS3, hM3⟩
                                have HM3 : Hid (Mg c d2 d3 mid b) := hM3
                                clear hM3 T
                                go_wp2_with fail
                                go_end0
                                exact ⟨rfl, d3, hS3, FIN.out d3 HM3.out⟩
                              · go_wp2_with fail
                                go_end0
                                exact ⟨rfl, d2, HS2.out, FIN.out d2 (Mg.triv HP2.out (by omega))⟩
                            · go_wp2_with fail
                              go_end0
                              exact ⟨rfl, d2, HS2.out, FIN.out d2 (Mg.triv HP2.out (by omega))⟩
end Go.Proofs.Ybulkdkos
