/-
  LawS5582BWhole: the law returns true at every input. The frame after the kit's proof-skeleton (which does not serve slices of slices); the walks are mine.
-/
import Derived.Test.YbulkdkosRows
import Derived.Test.YbulkdkosBWalk
import Derived.WalkKit
import Derived.ProofKit
import Derived.OpenShut
import Derived.ShutString
import Derived.ChangeOld
import Derived.Below
import Derived.SizedLaws
import Derived.Deep.Matrix
namespace Go.Proofs.Ybulkdkos.lawS5582BWhole
open Go.ChangeShapes Go.WideShapes Go.ChangeAt Go.RowKit Go.Deep
set_option linter.unusedVariables false

theorem own : ownKnob Yba.prog.godebug = none := by kernel_rfl
theorem bytes39 : Yba.prog.bytesOf 39 = 24 := by kernel_rfl
theorem bytes23 : Yba.prog.bytesOf 23 = 8 := by kernel_rfl
theorem laidOut : laidOutB Yba.prog = true := by kernel_rfl
theorem bounds_i64 {n : Int} (h : (Lit.int .i64 n).wf = true) : -9223372036854775808 ≤ n ∧ n ≤ 9223372036854775807 := by
  simp [Lit.wf, IntKind.min, IntKind.max, IntKind.signed, IntKind.bits] at h
  omega

theorem weights_in {H : Type} {P : Program} {t : TypeId} {d : DataW H} {n : Nat} : ∀ {ds : List (DataW H)}, d ∈ ds → n ∈ d.weights P t → n ∈ DataW.weightsAll P t ds
  | d0 :: ds, hd, hn => by
    simp only [DataW.weightsAll, List.mem_append]
    rcases List.mem_cons.1 hd with rfl | hd
    · exact Or.inl hn
    · exact Or.inr (weights_in hd hn)
theorem sized_inner {H : Type} {P : Program} {ts : List TypeId} {ds : List (DataW H)} (h : (DataW.weightsEach P ts ds).all (· ≤ reachBytes) = true) {j : Nat} {t e q : TypeId} {elems spare e' sp' : List (DataW H)}
    (ht : ts[j]? = some t) (hd : ds[j]? = some (.slice elems spare)) (hu : P.underlying t = some (.slice e)) (hu2 : P.underlying e = some (.slice q)) (hx : DataW.slice e' sp' ∈ elems) : (e'.length + sp'.length) * P.bytesOf q ≤ reachBytes := by
  refine of_decide_eq_true (List.all_eq_true.1 h _ (DataW.weights_mem_each ht hd _ ?_))
  simp only [DataW.weights, hu, List.mem_cons, List.mem_append]
  exact Or.inr (Or.inl (weights_in hx (by simp [DataW.weights, hu2])))

set_option maxRecDepth 100000 in
theorem lifted (os : Os) (started : os.Started) (H : Type) (enc : TypeId × Value → H) :
    ReturnsInHanded {} Yba.checked os 4 .any (Rows.lawS5582BWholeSpec.pre6 enc Yba.prog Yba.f4 Rows.lawS5582BWholeRow.domain false) (Rows.lawS5582BWholeSpec.post enc Yba.prog Yba.f4 false true false false) := by
  refine returnsInHanded_of_change_sized (C := Yba.checked) own started (by kernel_rfl) Yba.func4
    (ChangeSpec.witness6 (enc := enc) (C := Yba.checked) false ⟨#[], #[.slice none 0 0, .int .i64 0], []⟩ 8 (by kernel_rfl) (by kernel_rfl) (by kernel_rfl) (by kernel_rfl)) ?_
  intro W base args ds gs before hval0 hW hcnd hsz0 _
  have hval : ∀ (j : Nat) t v, Yba.f4.params[j]? = some t → args[j]? = some v → Value.okWide Yba.prog W .any base t v := hval0
  have hsz : (DataW.weightsEach Yba.prog (Yba.f4.params.toList ++ Rows.lawS5582BWholeSpec.plain.varTypes Yba.prog) (ds ++ gs)).all (· ≤ reachBytes) = true := hsz0
  clear hsz0
  have hW' := hW
  obtain ⟨p, q, hA0, hV, rfl, hfz, hnd⟩ := hW
  have hA : DataW.TrodAll enc Yba.prog W 0 (fun _ => true) true Yba.f4.params.toList args.toList ds p := hA0
  rw [Yba.params4] at hA hval hsz
  obtain ⟨v0, vs0, d0, ds0, p0, q0, hargs, rfl, rfl, h0, r0⟩ := trodAll_cons hA
  obtain ⟨v1, vs1, d1, ds1, p1, q1, rfl, rfl, rfl, h1, r1⟩ := trodAll_cons r0
  obtain ⟨rfl, rfl, rfl⟩ := trodAll_nil r1
  obtain rfl : args = #[v0, v1] := by cases args; simp_all
  obtain ⟨rfl, rfl⟩ := trodVars_none hV
  obtain ⟨a0, len0, cap0, rfl⟩ := okWide_slice Yba.underlying38 (hval 0 38 v0 rfl rfl)
  have k0 := h0
  have lt0 : ∀ x ∈ p0, x.block < W.heap.size := by obtain ⟨m, hm⟩ := k0; exact DataW.trod_lt m _ _ _ hm
  obtain ⟨A, L, C, Z, w0, s0, sL⟩ : ∃ A L C Z, CameRows W a0 len0 A L C Z ∧ len0 ≤ 140737488351232 ∧ ∀ r, L r ≤ 140737488351232 := by
    obtain ⟨fuel, hf⟩ := h0
    rcases open_int_rows Yba.underlying38 Yba.underlying39 Yba.underlying23 (by kernel_rfl) (by kernel_rfl) hf with ⟨hcs, _⟩ | ⟨x, l, c, A, L, C, Z, hcs, _, hl, hm, hx, hr⟩
    · simp [Value.cells] at hcs
      obtain ⟨rfl, rfl, rfl⟩ := hcs
      exact ⟨fun _ => none, fun _ => 0, fun _ => 0, fun _ _ => 0, fun h => absurd h (by omega), by omega, fun _ => Nat.zero_le _⟩
    · simp [Value.cells] at hcs
      obtain ⟨rfl, rfl, rfl⟩ := hcs
      have hd := congrArg Prod.fst hx
      have hs := sized_slice hsz (j := 0) (t := 38) (e := 39) rfl (congrArg some hd) Yba.underlying38
      rw [bytes39] at hs
      simp only [List.length_map, List.length_range, reachBytes] at hs
      have hLb : ∀ r, r < len0 → L r ≤ 140737488351232 := by
        intro r hr'
        obtain ⟨c1, c2, c3, c4, c5, c6, c7⟩ := hr r (by omega)
        cases hAr : A r with
        | none => have := c6 hAr; omega
        | some a' =>
          have hin := sized_inner hsz (j := 0) (t := 38) (e := 39) (q := 23) rfl (congrArg some hd) Yba.underlying38 Yba.underlying39
            (e' := lits .u64 ((Z r).take (L r))) (sp' := lits .u64 ((Z r).drop (L r))) (List.mem_map.2 ⟨r, List.mem_range.2 hr', by simp [intRow, hAr]⟩)
          rw [bytes23] at hin
          simp only [lits, List.length_map, List.length_take, List.length_drop, reachBytes] at hin
          omega
      refine ⟨A, fun r => if r < len0 then L r else 0, C, fun r c => (Z r).getD c 0, fun hpos => ?_, by omega, fun r => ?_⟩
      rotate_left
      · show (if r < len0 then L r else 0) ≤ _
        split
        · exact hLb r (by assumption)
        · omega
      obtain ⟨bx, ox, sx⟩ := x
      have hx0 := (hr 0 (by omega)).1
      have hspot : sx = none := by simpa [Addr.add] using World.cell?_spot hx0
      subst hspot
      refine ⟨bx, ox, rfl, World.block_lt_of_cell? W ⟨bx, ox, none⟩ (by simpa [Addr.add] using hx0), fun r hr' => ?_⟩
      obtain ⟨c1, c2, c3, c4, c5, c6, c7⟩ := hr r (by omega)
      simp only [if_pos hr']
      refine ⟨by rw [← add_plain]; exact c1, fun hLr => ?_⟩
      cases hAr : A r with
      | none => have := c6 hAr; omega
      | some a' =>
        obtain ⟨_, c8⟩ := c7 a' hAr
        obtain ⟨b', o', s'⟩ := a'
        have h80 := c8 0 (by omega)
        have hspot' : s' = none := by simpa [Addr.add] using World.cell?_spot h80
        subst hspot'
        exact ⟨b', o', rfl, World.block_lt_of_cell? W ⟨b', o', none⟩ (by simpa [Addr.add] using h80), fun c hc => by rw [← add_plain]; exact c8 c (by omega)⟩
  obtain ⟨a1, rfl, rfl, rfl, w1⟩ := open_int Yba.underlying3 (hval 1 3 v1 rfl rfl) h1
  clear hA0 hval0
  refine (whole_walk a0 len0 cap0 A L C Z a1 W w0 s0 sL (bounds_i64 w1)).mono fun e W' ⟨he, bel⟩ => ?_
  subst he
  exact ⟨_, rfl, _, _, _, [], _, [], hW', trodAll_mk1 (shut_bool Yba.underlying4 _), (trodAll_cons_mk (Below.trod laidOut (by kernel_rfl) (of_decide_eq_true (by kernel_rfl)) k0 bel lt0) (trodAll_cons_mk (shut_int Yba.underlying3 w1) trodAll_mk0)), rfl, bel.frame _, fun h => by cases h⟩

theorem over : Rows.lawS5582BWholeRow.holds Yba.pinned (OpenSpec.ofChange Rows.lawS5582BWholeSpec) :=
  OpenClaim.holds_of_wide 4 Yba.f4 rfl rfl rfl rfl rfl rfl rfl ⟨rfl, rfl, rfl, rfl, rfl⟩ rfl rfl rfl rfl rfl (by kernel_rfl) Yba.func4 (by kernel_rfl)
    (of_decide_eq_true (by kernel_rfl)) (by unfold Func.isWrapper; first | (rw [if_pos (by decide +kernel)]; kernel_rfl) | (rw [if_neg (by decide +kernel)]; exact ⟨rfl, rfl⟩))
    (fun os started H enc _ => lifted os started H enc)

/-- The statement. -/
theorem proved : Rows.LawS5582BWholeSaid := over
end Go.Proofs.Ybulkdkos.lawS5582BWhole
