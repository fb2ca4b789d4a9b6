/-
  LawS5581CPart: the told and tied card: the law returns true at every input. The frame after the guide's worked told and tied rows; the walks are mine.
-/
import Derived.Test.YbulkdkoeGreatFmtWalk
import Derived.Test.YbulkdkoeGreatFmtCards
import Derived.Test.YbulkdkoeGreatFmtTie
import Derived.Stop.JoinedTold
import Derived.SevenTiedAt
import Derived.WalkKit
import Derived.ProofKit
import Derived.OpenShut
import Derived.ShutString
import Derived.ChangeOld
import Derived.Below
import Derived.SizedLaws
import Derived.Deep.Slices
namespace Go.Proofs.YbulkdkoeGreatFmt.lawS5581CPart
open Go.ChangeShapes Go.WideShapes Go.ChangeAt Go.RowKit Go.Deep
open Go.Extern.Stop Go.Stop Go.Extern
set_option linter.unusedVariables false

theorem own : ownKnob Ybaz.prog.godebug = none := by kernel_rfl
theorem bytes65 : Ybaz.prog.bytesOf 65 = 4 := by kernel_rfl
theorem bytes5 : Ybaz.prog.bytesOf 5 = 1 := by kernel_rfl
theorem bytes3 : Ybaz.prog.bytesOf 3 = 8 := by kernel_rfl
theorem cells65 : Ybaz.prog.cellsOf 65 = 4 := by kernel_rfl
theorem cells4 : Ybaz.prog.cellsOf 4 = 1 := by kernel_rfl
theorem cells5 : Ybaz.prog.cellsOf 5 = 1 := by kernel_rfl
theorem laidOut : laidOutB Ybaz.pinned.checked.prog = true := by kernel_rfl
theorem stops : Ybaz.pinned.checked.prog.stops = ["fmt.Sprintf", "fmt.errorf"] := by kernel_rfl
theorem stopKnobs : Ybaz.pinned.checked.prog.stopKnobs = [] := by kernel_rfl
theorem quiet (os : Os) : Stop.quiet Ybaz.pinned.checked.prog os := by
  intro k hk
  rw [stopKnobs] at hk
  cases hk
theorem gB : Ybaz.prog.globalNamed "math/bits.deBruijn64tab" = some 0 := by kernel_rfl

def tab : Array Value := #[0, 1, 56, 2, 57, 49, 28, 3, 61, 58, 42, 50, 38, 29, 17, 4, 62, 47, 59, 36, 45, 43, 51, 22, 53, 39, 33, 30, 24, 18, 12, 5, 63, 55, 48, 27, 60, 41, 37, 16, 46, 35, 44, 21, 52, 32, 23, 11, 54, 26, 40, 15, 34, 20, 31, 10, 25, 14, 19, 9, 13, 8, 7, 6].map (Value.int .u8)
noncomputable def laidWorld (os : Os) : World :=
  let w0 := World.holding Ybaz.prog os ⟨#[], #[], []⟩
  { w0 with heap := w0.heap.modify 0 fun
      | .cells _ t frozen => .cells tab t frozen
      | o => o }
theorem laid_met (os : Os) (args : Array Value) : laidMet Ybaz.prog Rows.lawS5581CPartRow.laid ((laidWorld os).forCall (fun _ _ => 0) ⟨#[], args, []⟩).memory :=
  laidMet_of_run (ps := (List.range 64).map fun j => .cell 0 j) 8 (by kernel_rfl) (by kernel_rfl) (by kernel_rfl)

theorem bounds_u8 {n : Int} (h : (Lit.int .u8 n).wf = true) : 0 ≤ n ∧ n ≤ 255 := by
  simp [Lit.wf, IntKind.min, IntKind.max, IntKind.signed, IntKind.bits] at h
  omega

set_option maxRecDepth 100000 in
/-- One source, from its four cells. -/
theorem one_source {H : Type} {enc : TypeId × Value → H} {W : World} {base : Nat} {spare : Nat → Bool} {held : Bool} {fuel : Nat} {a : Addr} {x : DataW H × List MemPlace} {cs : List Value}
    (h1 : W.cells? base a 4 = some cs) (h2 : DataW.trod enc Ybaz.prog W base spare held fuel 65 cs = some x) :
    ∃ i : Bool × Nat × Nat × Bool, W.cell? a = some (.bool i.1) ∧ W.cell? (a.add 1) = some (.int .u8 (i.2.1 : Int)) ∧ W.cell? (a.add 2) = some (.int .u8 (i.2.2.1 : Int)) ∧ W.cell? (a.add 3) = some (.bool i.2.2.2) ∧ i.2.1 ≤ 255 ∧ i.2.2.1 ≤ 255 := by
  obtain ⟨_, hlen, hcell⟩ := World.cells?_some h1
  obtain ⟨xs, k, hk, hxy, _, hxl, hf⟩ := DataW.trod_struct Ybaz.underlying65 h2
  match xs, hxl, cs, hlen with
  | [y0, y1, y2, y3], _, [v0, v1, v2, v3], _ =>
    have g0 := hf 0 _ rfl
    have g1 := hf 1 _ rfl
    have g2 := hf 2 _ rfl
    have g3 := hf 3 _ rfl
    simp [cells4, cells5] at g0 g1 g2 g3
    obtain ⟨b0, e0, _⟩ := DataW.trod_bool Ybaz.underlying4 g0
    obtain ⟨n1, e1, _, f1⟩ := DataW.trod_int Ybaz.underlying5 g1
    obtain ⟨n2, e2, _, f2⟩ := DataW.trod_int Ybaz.underlying5 g2
    obtain ⟨b3, e3, _⟩ := DataW.trod_bool Ybaz.underlying4 g3
    simp at e0 e1 e2 e3
    subst e0; subst e1; subst e2; subst e3
    have := bounds_u8 f1
    have := bounds_u8 f2
    have c0 := hcell 0 (by omega)
    have c1 := hcell 1 (by omega)
    have c2 := hcell 2 (by omega)
    have c3 := hcell 3 (by omega)
    simp at c0 c1 c2 c3
    have ha : a.add 0 = a := by cases a; simp [Addr.add]
    rw [ha] at c0
    refine ⟨(b0, n1.toNat, n2.toNat, b3), c0, ?_, ?_, c3, by simp only; omega, by simp only; omega⟩
    · rw [c1]; simp only [Option.some.injEq, Value.int.injEq, true_and]; omega
    · rw [c2]; simp only [Option.some.injEq, Value.int.injEq, true_and]; omega

/-- A slice of numbers that came in. -/
theorem ints_came {H : Type} {enc : TypeId × Value → H} {W : World} {t e : TypeId} {k : IntKind} (ht : Ybaz.prog.underlying t = some (.slice e)) (he : Ybaz.prog.underlying e = some (.int k)) (ce : Ybaz.prog.cellsOf e = 1) {a : Option Addr} {len cap : Nat} {d : DataW H} {p : List MemPlace}
    (h : DataW.Trod enc Ybaz.prog W 0 (fun _ => true) true t (.slice a len cap) d p) :
    ∃ zs : List Int, (0 < len → ∃ b o, a = some ⟨b, o, none⟩ ∧ b < W.heap.size ∧ ∀ j, j < len → W.cell? ⟨b, o + j, none⟩ = some (.int k (zs.getD j 0))) ∧ (∀ n ∈ zs, (Lit.int k n).wf = true) ∧
      ((len = 0 ∧ d = .nil) ∨ ∃ e1 e2, d = .slice e1 e2 ∧ e1.length = len) := by
  obtain ⟨fuel, hf⟩ := h
  rcases open_ints ht he ce hf with ⟨hcs, hx⟩ | ⟨x, l, c, zs, hcs, _, hl, hm, hz, hx, hcell, hwz⟩
  · simp [Value.cells] at hcs
    obtain ⟨rfl, rfl, rfl⟩ := hcs
    exact ⟨[], fun h => absurd h (by omega), fun n hn => by simp at hn, Or.inl ⟨rfl, congrArg Prod.fst hx⟩⟩
  · simp [Value.cells] at hcs
    obtain ⟨rfl, rfl, rfl⟩ := hcs
    have hz' : zs.length = cap := by simpa using hz
    refine ⟨zs, fun hl0 => ?_, hwz, Or.inr ⟨_, _, congrArg Prod.fst hx, by simp [lits, hz', hl]⟩⟩
    obtain ⟨bx, ox, sx⟩ := x
    have h0 := hcell 0 (by omega)
    have hspot : sx = none := by simpa [Addr.add] using World.cell?_spot h0
    subst hspot
    exact ⟨bx, ox, rfl, World.block_lt_of_cell? W ⟨bx, ox, none⟩ (by simpa [Addr.add] using h0), fun j hj => by rw [← add_plain]; exact hcell j (by omega)⟩

theorem getD_wf {k : IntKind} {zs : List Int} (h : ∀ n ∈ zs, (Lit.int k n).wf = true) (h0 : (Lit.int k 0).wf = true) (j : Nat) : (Lit.int k (zs.getD j 0)).wf = true := by
  by_cases hj : j < zs.length
  · rw [List.getD_eq_getElem?_getD, List.getElem?_eq_getElem hj]
    exact h _ (List.getElem_mem hj)
  · rw [List.getD_eq_getElem?_getD, List.getElem?_eq_none (by omega)]
    simpa using h0

set_option maxRecDepth 100000 in
set_option maxHeartbeats 1600000 in
theorem lifted (os : Os) (started : os.Started) (H : Type) (enc : TypeId × Value → H) :
    ReturnsInTold none {} Ybaz.checked os 3 .any Input.okWide ((OpenSpec.ofChange Rows.lawS5581CPartSpec).preRow enc Ybaz.prog Ybaz.f3 [] false Rows.lawS5581CPartRow.laid) (fun F => ((OpenSpec.ofChange Rows.lawS5581CPartSpec).at F).post enc Ybaz.prog Ybaz.f3 false true false false) (aloneAtReturn Ybaz.prog) nothingAlways := by
  refine returnsInTold_of_row (C := Ybaz.checked) (s := OpenSpec.ofChange Rows.lawS5581CPartSpec) (by kernel_rfl) own started (by kernel_rfl) Ybaz.func3
    (OpenSpec.witness_stopped_at (enc := enc) (C := Ybaz.checked) false (laidWorld os) #[.bool false, .slice none 0 0, .slice none 0 0, .slice none 0 0] rfl (by kernel_rfl) (by kernel_rfl) (by kernel_rfl)
      (OpenSpec.preRow_of_B rfl 8 (by kernel_rfl) (by kernel_rfl) (laid_met os _))) ?_
  intro F W base0 args ds gs before _ hF hval0 hW _ _ hsz0 hL _
  have hval : ∀ (j : Nat) t v, Ybaz.f3.params[j]? = some t → args[j]? = some v → Value.okWide Ybaz.prog W .any base0 t v := hval0
  have hsz : (DataW.weightsEach Ybaz.prog (Ybaz.f3.params.toList ++ (OpenSpec.ofChange Rows.lawS5581CPartSpec).bare.plain.varTypes Ybaz.prog) (ds ++ gs)).all (· ≤ reachBytes) = true := hsz0
  clear hsz0
  have hW' := hW
  obtain ⟨p, q, hA0, hV, rfl, hfz, hnd⟩ := hW
  have hA : DataW.TrodAll enc Ybaz.prog W 0 (fun _ => true) true Ybaz.f3.params.toList args.toList ds p := hA0
  rw [Ybaz.params3] at hA hval hsz
  obtain ⟨v0, vs0, d0, ds0, p0, q0, hargs, rfl, rfl, h0, r0⟩ := trodAll_cons hA
  obtain ⟨v1, vs1, d1, ds1, p1, q1, rfl, rfl, rfl, h1, r1⟩ := trodAll_cons r0
  obtain ⟨v2, vs2, d2, ds2, p2, q2, rfl, rfl, rfl, h2, r2⟩ := trodAll_cons r1
  obtain ⟨v3, vs3, d3, ds3, p3, q3, rfl, rfl, rfl, h3, r3⟩ := trodAll_cons r2
  obtain ⟨rfl, rfl, rfl⟩ := trodAll_nil r3
  obtain rfl : args = #[v0, v1, v2, v3] := by cases args; simp_all
  obtain ⟨rfl, rfl⟩ := trodVars_none hV
  obtain ⟨sending, rfl, rfl, rfl⟩ := open_bool Ybaz.underlying4 (hval 0 4 v0 rfl rfl) h0
  obtain ⟨a1, len1, cap1, rfl⟩ := okWide_slice Ybaz.underlying22 (hval 1 22 v1 rfl rfl)
  have k1 := h1
  have lt1 : ∀ x ∈ p1, x.block < W.heap.size := by obtain ⟨m, hm⟩ := k1; exact DataW.trod_lt m _ _ _ hm
  obtain ⟨a2, len2, cap2, rfl⟩ := okWide_slice Ybaz.underlying23 (hval 2 23 v2 rfl rfl)
  have k2 := h2
  have lt2 : ∀ x ∈ p2, x.block < W.heap.size := by obtain ⟨m, hm⟩ := k2; exact DataW.trod_lt m _ _ _ hm
  obtain ⟨a3, len3, cap3, rfl⟩ := okWide_slice Ybaz.underlying24 (hval 3 24 v3 rfl rfl)
  have k3 := h3
  have lt3 : ∀ x ∈ p3, x.block < W.heap.size := by obtain ⟨m, hm⟩ := k3; exact DataW.trod_lt m _ _ _ hm
  obtain ⟨z2, w2, f2, s2⟩ := ints_came Ybaz.underlying23 Ybaz.underlying5 cells5 h2
  obtain ⟨z3, w3, f3, s3⟩ := ints_came Ybaz.underlying24 Ybaz.underlying3 (by kernel_rfl) h3
  have l2 : len2 ≤ 140737488351232 := by
    rcases s2 with ⟨h, _⟩ | ⟨e1, e2, hd, he⟩
    · omega
    · have hs := sized_slice hsz (j := 2) (t := 23) (e := 5) rfl (congrArg some hd) Ybaz.underlying23
      rw [bytes5] at hs
      simp only [reachBytes] at hs
      omega
  have l3 : len3 ≤ 140737488351232 := by
    rcases s3 with ⟨h, _⟩ | ⟨e1, e2, hd, he⟩
    · omega
    · have hs := sized_slice hsz (j := 3) (t := 24) (e := 3) rfl (congrArg some hd) Ybaz.underlying24
      rw [bytes3] at hs
      simp only [reachBytes] at hs
      omega
  obtain ⟨Y, w1, l1, b1, bz⟩ : ∃ Y : Nat → Bool × Nat × Nat × Bool, Srcs W a1 len1 (fun j => (Y j).1) (fun j => (Y j).2.2.2) (fun j => (Y j).2.1) (fun j => (Y j).2.2.1) ∧ len1 ≤ 140737488351232 ∧ (∀ j, (Y j).2.1 ≤ 255 ∧ (Y j).2.2.1 ≤ 255) ∧
      ∀ j, len1 ≤ j → (Y j).1 = false ∧ (Y j).2.1 = 0 ∧ (Y j).2.2.1 = 0 ∧ (Y j).2.2.2 = false := by
    obtain ⟨fuel, hf⟩ := h1
    rcases open_slice Ybaz.underlying22 hf with ⟨hcs, _⟩ | ⟨x, l, c, m, n, D, Pl, hcs, _, hl, hm, hmm, hx, hel⟩
    · simp [Value.cells] at hcs
      obtain ⟨rfl, rfl, rfl⟩ := hcs
      exact ⟨fun _ => (false, 0, 0, false), fun h => absurd h (by omega), by omega, fun _ => ⟨by simp, by simp⟩, fun _ _ => ⟨rfl, rfl, rfl, rfl⟩⟩
    · simp [Value.cells] at hcs
      obtain ⟨rfl, rfl, rfl⟩ := hcs
      have hd := congrArg Prod.fst hx
      have hs := sized_slice hsz (j := 1) (t := 22) (e := 65) rfl (congrArg some hd) Ybaz.underlying22
      rw [bytes65] at hs
      simp only [List.length_map, List.length_range, reachBytes] at hs
      simp only [if_true] at hmm
      rw [cells65] at hel
      have each : ∀ i, i < len1 → ∃ q : Bool × Nat × Nat × Bool, W.cell? (x.add (i * 4)) = some (.bool q.1) ∧ W.cell? ((x.add (i * 4)).add 1) = some (.int .u8 (q.2.1 : Int)) ∧ W.cell? ((x.add (i * 4)).add 2) = some (.int .u8 (q.2.2.1 : Int)) ∧ W.cell? ((x.add (i * 4)).add 3) = some (.bool q.2.2.2) ∧ q.2.1 ≤ 255 ∧ q.2.2.1 ≤ 255 := by
        intro i hi
        obtain ⟨cs', e1, e2⟩ := hel i (by omega)
        exact one_source e1 e2
      obtain ⟨Y, hY⟩ := choose_lt each
      refine ⟨fun j => if j < len1 then Y j else (false, 0, 0, false), fun hpos => ?_, by omega, fun j => ?_, fun j hj => ?_⟩
      · obtain ⟨bx, ox, sx⟩ := x
        have hx0 := (hY 0 hpos).1
        have hspot : sx = none := by simpa [Addr.add] using World.cell?_spot hx0
        subst hspot
        refine ⟨bx, ox, rfl, World.block_lt_of_cell? W ⟨bx, ox, none⟩ (by simpa [Addr.add] using hx0), fun j hj => ?_⟩
        obtain ⟨e0, e1, e2, e3, _⟩ := hY j hj
        simp only [if_pos hj]
        simp only [add_plain] at e0 e1 e2 e3
        exact ⟨e0, e1, e2, e3⟩
      · by_cases hj : j < len1
        · simp only [if_pos hj]
          exact ⟨(hY j hj).2.2.2.2.1, (hY j hj).2.2.2.2.2⟩
        · simp [if_neg hj]
      · simp [if_neg (show ¬ j < len1 by omega)]
  have w2' : Refs W a2 len2 (fun j => (z2.getD j 0).toNat) := by
    intro hpos
    obtain ⟨b, o, e1, e2, e3⟩ := w2 hpos
    refine ⟨b, o, e1, e2, fun j hj => ?_⟩
    rw [e3 j hj]
    have := bounds_u8 (getD_wf f2 (by decide) j)
    simp only [Option.some.injEq, Value.int.injEq, true_and]
    omega
  clear hA0 hval0
  refine (whole_walk sending a1 len1 cap1 _ _ _ _ a2 len2 cap2 _ a3 len3 cap3 (fun j => z3.getD j 0) W w1 w2' w3 l1 l2 l3 b1 bz (fun j => by have := bounds_u8 (getD_wf f2 (by decide) j); omega)).mono fun e W' ⟨he, bel⟩ => ?_
  subst he
  exact ⟨_, rfl, _, _, _, [], _, [], hW', trodAll_mk1 (shut_bool Ybaz.underlying4 _), (trodAll_cons_mk (shut_bool Ybaz.underlying4 _) (trodAll_cons_mk (Below.trod laidOut (by kernel_rfl) (of_decide_eq_true (by kernel_rfl)) k1 bel lt1) (trodAll_cons_mk (Below.trod laidOut (by kernel_rfl) (of_decide_eq_true (by kernel_rfl)) k2 bel lt2) (trodAll_cons_mk (Below.trod laidOut (by kernel_rfl) (of_decide_eq_true (by kernel_rfl)) k3 bel lt3) trodAll_mk0)))), rfl, bel.frame _, fun h => by cases h⟩

/-- The statement: the told and tied card. -/
theorem proved : Rows.LawS5581CPartToldSaid :=
  Claim7.holds_of_told_tied_any_at .later 3 Ybaz.f3 "fmt.Sprintf" ["fmt.errorf"] [] _ _ _ _ _ (by kernel_rfl) rfl rfl rfl laidOut (by kernel_rfl) rfl ⟨rfl, rfl, rfl, rfl, rfl, rfl, rfl⟩ rfl rfl (by kernel_rfl) (by kernel_rfl) Ybaz.func3 (by kernel_rfl)
    (of_decide_eq_true (by kernel_rfl)) (of_decide_eq_true (by kernel_rfl)) stops.symm rfl stopKnobs.symm (by kernel_rfl)
    (by kernel_rfl) (by kernel_rfl) (by kernel_rfl) (by kernel_rfl) (by kernel_rfl) (by kernel_rfl) (by kernel_rfl) (by kernel_rfl) (by kernel_rfl) rfl (by kernel_rfl) rfl rfl
    rfl rfl
    rfl (by kernel_rfl) (by kernel_rfl) (by kernel_rfl) (by decide) (by kernel_rfl) lawS5581CPart_row_tie
    (OpenClaim.moreEntering_of (by kernel_rfl) (by kernel_rfl) (by kernel_rfl) (by kernel_rfl) (by kernel_rfl) (by kernel_rfl) (by kernel_rfl) (by kernel_rfl) (by kernel_rfl) (by kernel_rfl))
    ⟨_, WideRow.started_initial, quiet _⟩
    (fun os started _ H enc _ => lifted os started H enc)
end Go.Proofs.YbulkdkoeGreatFmt.lawS5581CPart
