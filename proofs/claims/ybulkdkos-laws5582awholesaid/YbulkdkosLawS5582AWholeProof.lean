/-
  LawS5582AWhole: the law returns true at every input. The frame after the kit's proof-skeleton (which does not serve slices of structs); the walks are mine.
-/
import Derived.Test.YbulkdkosRows
import Derived.Test.YbulkdkosALaw
import Derived.WalkKit
import Derived.ProofKit
import Derived.OpenShut
import Derived.ShutString
import Derived.ChangeOld
import Derived.Below
import Derived.SizedLaws
import Derived.Deep.Matrix
namespace Go.Proofs.Ybulkdkos.lawS5582AWhole
open Go.ChangeShapes Go.WideShapes Go.ChangeAt Go.RowKit Go.Deep
set_option linter.unusedVariables false
set_option linter.unusedSimpArgs false
theorem own : ownKnob Yba.prog.godebug = none := by kernel_rfl
theorem bytes5 : Yba.prog.bytesOf 5 = 1 := by kernel_rfl
theorem cells67 : Yba.prog.cellsOf 67 = 4 := by kernel_rfl
theorem cells5 : Yba.prog.cellsOf 5 = 1 := by kernel_rfl
theorem cells23 : Yba.prog.cellsOf 23 = 1 := by kernel_rfl
theorem cells31 : Yba.prog.cellsOf 31 = 1 := by kernel_rfl
theorem laidOut : laidOutB Yba.prog = true := by kernel_rfl
theorem bounds_u8 {n : Int} (h : (Lit.int .u8 n).wf = true) : 0 ≤ n ∧ n ≤ 255 := by
  simp [Lit.wf, IntKind.min, IntKind.max, IntKind.signed, IntKind.bits] at h
  omega
theorem bytes_open {H : Type} {enc : TypeId × Value → H} {W : World} {fuel : Nat} {v : Value} {y : DataW H × List MemPlace} (h : DataW.trod enc Yba.prog W 0 (fun _ => true) true fuel 31 [v] = some y) (hw : ∀ m ∈ y.1.weights Yba.prog 31, m ≤ reachBytes) :
    ∃ q : Option Addr × Nat × Nat × List Int, v = .slice q.1 q.2.1 q.2.2.1 ∧ BytesAt W q.1 q.2.1 q.2.2.2 ∧ (q.1 = none → q.2.1 = 0) ∧ q.2.1 ≤ 140737488351232 ∧ ∀ j, 0 ≤ q.2.2.2.getD j 0 ∧ q.2.2.2.getD j 0 ≤ 255 := by
  rcases open_ints Yba.underlying31 Yba.underlying5 cells5 h with ⟨hcs, _⟩ | ⟨x, l, c, zs, hcs, _, hl, hm, hz, hx, hcell, hwz⟩
  · simp at hcs
    exact ⟨(none, 0, 0, []), hcs, ⟨rfl, fun h => absurd h (by simp)⟩, fun _ => rfl, by simp, fun j => by simp⟩
  · simp at hcs
    have hz' : zs.length = c := by simpa using hz
    have hd := congrArg Prod.fst hx
    have hs := hw ((lits .u8 (zs.take l)).length * 1 + (lits .u8 (zs.drop l)).length * 1) (by rw [hd]; simp [DataW.weights, Yba.underlying31, bytes5]; exact Or.inl rfl)
    simp only [lits, List.length_map, List.length_take, List.length_drop, reachBytes] at hs
    refine ⟨(some x, l, c, zs.take l), hcs, ⟨by simp; omega, fun hn => ?_⟩, fun e => by simp at e, by simp only; omega, fun j => ?_⟩
    · obtain ⟨bx, ox, sx⟩ := x
      have hn' : 0 < l := hn
      have h0 := hcell 0 (by omega)
      have hspot : sx = none := by simpa [Addr.add] using World.cell?_spot h0
      subst hspot
      refine ⟨bx, ox, rfl, World.block_lt_of_cell? W ⟨bx, ox, none⟩ (by simpa [Addr.add] using h0), fun j hj => ?_⟩
      have hj' : j < l := hj
      have := hcell j (by omega)
      rw [add_plain] at this
      rw [this]
      simp [List.getD, hj']
    · by_cases hj : j < (zs.take l).length
      · rw [List.getD_eq_getElem?_getD, List.getElem?_eq_getElem hj]
        exact bounds_u8 (hwz _ (List.mem_of_mem_take (List.getElem_mem hj)))
      · rw [List.getD_eq_getElem?_getD, List.getElem?_eq_none (Nat.not_lt.1 hj)]
        simp
set_option maxRecDepth 100000 in
theorem one_key {H : Type} {enc : TypeId × Value → H} {W : World} {fuel : Nat} {a : Addr} {x : DataW H × List MemPlace} {cs : List Value}
    (h1 : W.cells? 0 a 4 = some cs) (h2 : DataW.trod enc Yba.prog W 0 (fun _ => true) true fuel 67 cs = some x) (hw : ∀ m ∈ x.1.weights Yba.prog 67, m ≤ reachBytes) :
    ∃ q : Key × List Int × List Int, W.cell? a = some (.int .u8 q.1.k) ∧ W.cell? (a.add 1) = some (.int .u64 q.1.s) ∧ W.cell? (a.add 2) = some (.slice q.1.sa q.1.sl q.1.sc) ∧ W.cell? (a.add 3) = some (.slice q.1.va q.1.vl q.1.vc) ∧
      BytesAt W q.1.sa q.1.sl q.2.1 ∧ BytesAt W q.1.va q.1.vl q.2.2 ∧ (q.1.sa = none → q.1.sl = 0) ∧ (q.1.va = none → q.1.vl = 0) ∧ q.1.sl ≤ 140737488351232 ∧ q.1.vl ≤ 140737488351232 ∧ (0 ≤ q.1.k ∧ q.1.k ≤ 255) ∧ ∀ j, 0 ≤ q.2.1.getD j 0 ∧ q.2.1.getD j 0 ≤ 255 := by
  obtain ⟨_, hlen, hcell⟩ := World.cells?_some h1
  obtain ⟨xs, k, hk, hxy, _, hxl, hf⟩ := DataW.trod_struct Yba.underlying67 h2
  match xs, hxl, cs, hlen with
  | [y0, y1, y2, y3], _, [v0, v1, v2, v3], _ =>
    have g0 := hf 0 _ rfl
    have g1 := hf 1 _ rfl
    have g2 := hf 2 _ rfl
    have g3 := hf 3 _ rfl
    simp [cells5, cells23, cells31] at g0 g1 g2 g3
    obtain ⟨n0, e0, _, w0⟩ := DataW.trod_int Yba.underlying5 g0
    obtain ⟨n1, e1, _, w1⟩ := DataW.trod_int Yba.underlying23 g1
    have hx1 : x.1 = .agg [y0.1, y1.1, y2.1, y3.1] := by rw [hxy]; rfl
    have hw2 : ∀ m ∈ y2.1.weights Yba.prog 31, m ≤ reachBytes := fun m hm => hw m (by
      rw [hx1]
      simp only [DataW.weights, Yba.underlying67]
      exact DataW.weights_mem_each (j := 2) (t := 31) (d := y2.1) rfl rfl m hm)
    have hw3 : ∀ m ∈ y3.1.weights Yba.prog 31, m ≤ reachBytes := fun m hm => hw m (by
      rw [hx1]
      simp only [DataW.weights, Yba.underlying67]
      exact DataW.weights_mem_each (j := 3) (t := 31) (d := y3.1) rfl rfl m hm)
    obtain ⟨s, hs1, hs2, hs3, hs4, hs5⟩ := bytes_open g2 hw2
    obtain ⟨u, hu1, hu2, hu3, hu4, hu5⟩ := bytes_open g3 hw3
    simp at e0 e1
    subst e0; subst e1; subst hs1; subst hu1
    have c0 := hcell 0 (by omega)
    have c1 := hcell 1 (by omega)
    have c2 := hcell 2 (by omega)
    have c3 := hcell 3 (by omega)
    simp at c0 c1 c2 c3
    have ha : a.add 0 = a := by cases a; simp [Addr.add]
    rw [ha] at c0
    exact ⟨(⟨n0, n1, s.1, s.2.1, s.2.2.1, u.1, u.2.1, u.2.2.1⟩, s.2.2.2, u.2.2.2), c0, c1, c2, c3, hs2, hu2, hs3, hu3, hs4, hu4, bounds_u8 w0, hs5⟩
theorem weights_in {H : Type} {P : Program} {t : TypeId} {d : DataW H} {n : Nat} : ∀ {ds : List (DataW H)}, d ∈ ds → n ∈ d.weights P t → n ∈ DataW.weightsAll P t ds
  | d0 :: ds, hd, hn => by
    simp only [DataW.weightsAll, List.mem_append]
    rcases List.mem_cons.1 hd with rfl | hd
    · exact Or.inl hn
    · exact Or.inr (weights_in hd hn)
set_option maxRecDepth 100000 in
theorem lifted (os : Os) (started : os.Started) (H : Type) (enc : TypeId × Value → H) :
    ReturnsInHanded {} Yba.checked os 3 .any (Rows.lawS5582AWholeSpec.pre6 enc Yba.prog Yba.f3 Rows.lawS5582AWholeRow.domain false) (Rows.lawS5582AWholeSpec.post enc Yba.prog Yba.f3 false true false false) := by
  refine returnsInHanded_of_change_sized (C := Yba.checked) own started (by kernel_rfl) Yba.func3
    (ChangeSpec.witness6 (enc := enc) (C := Yba.checked) false ⟨#[], #[.slice none 0 0, .int .u64 0, .bool false], []⟩ 8 (by kernel_rfl) (by kernel_rfl) (by kernel_rfl) (by kernel_rfl)) ?_
  intro W base args ds gs before hval0 hW hcnd hsz0 _
  have hval : ∀ (j : Nat) t v, Yba.f3.params[j]? = some t → args[j]? = some v → Value.okWide Yba.prog W .any base t v := hval0
  have hsz : (DataW.weightsEach Yba.prog (Yba.f3.params.toList ++ Rows.lawS5582AWholeSpec.plain.varTypes Yba.prog) (ds ++ gs)).all (· ≤ reachBytes) = true := hsz0
  clear hsz0
  have hW' := hW
  obtain ⟨p, q, hA0, hV, rfl, hfz, hnd⟩ := hW
  have hA : DataW.TrodAll enc Yba.prog W 0 (fun _ => true) true Yba.f3.params.toList args.toList ds p := hA0
  rw [Yba.params3] at hA hval hsz
  obtain ⟨v0, vs0, d0, ds0, p0, q0, hargs, rfl, rfl, h0, r0⟩ := trodAll_cons hA
  obtain ⟨v1, vs1, d1, ds1, p1, q1, rfl, rfl, rfl, h1, r1⟩ := trodAll_cons r0
  obtain ⟨v2, vs2, d2, ds2, p2, q2, rfl, rfl, rfl, h2, r2⟩ := trodAll_cons r1
  obtain ⟨rfl, rfl, rfl⟩ := trodAll_nil r2
  obtain rfl : args = #[v0, v1, v2] := by cases args; simp_all
  obtain ⟨rfl, rfl⟩ := trodVars_none hV
  obtain ⟨a0, len0, cap0, rfl⟩ := okWide_slice Yba.underlying22 (hval 0 22 v0 rfl rfl)
  have k0 := h0
  have lt0 : ∀ x ∈ p0, x.block < W.heap.size := by obtain ⟨m, hm⟩ := k0; exact DataW.trod_lt m _ _ _ hm
  obtain ⟨snap, rfl, rfl, rfl, w1⟩ := open_int Yba.underlying23 (hval 1 23 v1 rfl rfl) h1
  obtain ⟨rev, rfl, rfl, rfl⟩ := open_bool Yba.underlying4 (hval 2 4 v2 rfl rfl) h2
  obtain ⟨Q, hI⟩ : ∃ Q : Nat → Key × List Int × List Int, Inp W a0 len0 (fun i => (Q i).1) (fun i => (Q i).2.1) (fun i => (Q i).2.2) := by
    obtain ⟨fuel, hf⟩ := h0
    rcases open_slice Yba.underlying22 hf with ⟨hcs, _⟩ | ⟨x, l, c, m, n, D, Pl, hcs, _, hl, hm, hmm, hx, hel⟩
    · simp [Value.cells] at hcs
      obtain ⟨rfl, rfl, rfl⟩ := hcs
      refine ⟨fun _ => (zkey, [], []), ⟨fun h => absurd h (by omega), fun i h => absurd h (by omega), fun i h => absurd h (by omega), fun i h => absurd h (by omega), fun i h => absurd h (by omega), fun i h => absurd h (by omega), fun i h => absurd h (by omega), fun i h => absurd h (by omega), fun i h => absurd h (by omega)⟩⟩
    · simp [Value.cells] at hcs
      obtain ⟨rfl, rfl, rfl⟩ := hcs
      have hd := congrArg Prod.fst hx
      simp only [if_true] at hmm
      rw [cells67] at hel
      have each : ∀ i, i < len0 → ∃ q : Key × List Int × List Int, W.cell? (x.add (i * 4)) = some (.int .u8 q.1.k) ∧ W.cell? ((x.add (i * 4)).add 1) = some (.int .u64 q.1.s) ∧ W.cell? ((x.add (i * 4)).add 2) = some (.slice q.1.sa q.1.sl q.1.sc) ∧ W.cell? ((x.add (i * 4)).add 3) = some (.slice q.1.va q.1.vl q.1.vc) ∧
          BytesAt W q.1.sa q.1.sl q.2.1 ∧ BytesAt W q.1.va q.1.vl q.2.2 ∧ (q.1.sa = none → q.1.sl = 0) ∧ (q.1.va = none → q.1.vl = 0) ∧ q.1.sl ≤ 140737488351232 ∧ q.1.vl ≤ 140737488351232 ∧ (0 ≤ q.1.k ∧ q.1.k ≤ 255) ∧ ∀ j, 0 ≤ q.2.1.getD j 0 ∧ q.2.1.getD j 0 ≤ 255 := by
        intro i hi
        obtain ⟨cs', e1, e2⟩ := hel i (by omega)
        refine one_key e1 e2 fun mm hmm' => of_decide_eq_true (List.all_eq_true.1 hsz mm (DataW.weights_mem_each (j := 0) (t := 22) (d := d0) rfl rfl mm ?_))
        rw [show d0 = _ from hd]
        simp only [DataW.weights, Yba.underlying22, List.mem_cons, List.mem_append]
        exact Or.inr (Or.inl (weights_in (List.mem_map.2 ⟨i, List.mem_range.2 hi, rfl⟩) hmm'))
      haveI : Inhabited (Key × List Int × List Int) := ⟨(zkey, [], [])⟩
      obtain ⟨Q, hQ⟩ := choose_lt each
      refine ⟨Q, ⟨fun hpos => ?_, fun i hi => (hQ i hi).2.2.2.2.1, fun i hi => (hQ i hi).2.2.2.2.2.1, fun i hi => (hQ i hi).2.2.2.2.2.2.1, fun i hi => (hQ i hi).2.2.2.2.2.2.2.1, fun i hi => (hQ i hi).2.2.2.2.2.2.2.2.1, fun i hi => (hQ i hi).2.2.2.2.2.2.2.2.2.1, fun i hi => (hQ i hi).2.2.2.2.2.2.2.2.2.2.1, fun i hi => (hQ i hi).2.2.2.2.2.2.2.2.2.2.2⟩⟩
      obtain ⟨bx, ox, sx⟩ := x
      have hx0 := (hQ 0 hpos).1
      have hspot : sx = none := by simpa [Addr.add] using World.cell?_spot hx0
      subst hspot
      refine ⟨bx, ox, rfl, World.block_lt_of_cell? W ⟨bx, ox, none⟩ (by simpa [Addr.add] using hx0), fun j hj => ?_⟩
      obtain ⟨e0, e1, e2, e3, _⟩ := hQ j hj
      simp only [add_plain] at e0 e1 e2 e3
      exact ⟨e0, e1, e2, e3⟩
  clear hA0 hval0
  refine (whole_walk a0 len0 cap0 snap rev _ _ _ W (fun _ => hI)).mono fun e W' ⟨he, bel⟩ => ?_
  subst he
  exact ⟨_, rfl, _, _, _, [], _, [], hW', trodAll_mk1 (shut_bool Yba.underlying4 _), (trodAll_cons_mk (Below.trod laidOut (by kernel_rfl) (of_decide_eq_true (by kernel_rfl)) k0 bel lt0) (trodAll_cons_mk (shut_int Yba.underlying23 w1) (trodAll_cons_mk (shut_bool Yba.underlying4 _) trodAll_mk0))), rfl, bel.frame _, fun h => by cases h⟩
theorem over : Rows.lawS5582AWholeRow.holds Yba.pinned (OpenSpec.ofChange Rows.lawS5582AWholeSpec) :=
  OpenClaim.holds_of_wide 3 Yba.f3 rfl rfl rfl rfl rfl rfl rfl ⟨rfl, rfl, rfl, rfl, rfl⟩ rfl rfl rfl rfl rfl (by kernel_rfl) Yba.func3 (by kernel_rfl)
    (of_decide_eq_true (by kernel_rfl)) (by unfold Func.isWrapper; first | (rw [if_pos (by decide +kernel)]; kernel_rfl) | (rw [if_neg (by decide +kernel)]; exact ⟨rfl, rfl⟩))
    (fun os started H enc _ => lifted os started H enc)
/-- The statement. -/
theorem proved : Rows.LawS5582AWholeSaid := over
end Go.Proofs.Ybulkdkos.lawS5582AWhole
