/-
  LawS5580AWhole: the law returns true at every input. The frame was written by the kit's proof-skeleton, turned to the sized builder; the walks are mine.
-/
import Derived.Test.YbulkdknqRows
import Derived.Test.YbulkdknqWalk
import Derived.WalkKit
import Derived.ProofKit
import Derived.OpenShut
import Derived.ShutString
import Derived.ChangeOld
import Derived.Below
import Derived.SizedLaws
namespace Go.Proofs.Ybulkdknq.lawS5580AWhole
open Go.ChangeShapes Go.WideShapes Go.ChangeAt Go.RowKit
open Go.ChangeMaps (open_string shut_string)
set_option linter.unusedVariables false

theorem own : ownKnob Yba.prog.godebug = none := by kernel_rfl
theorem bytes5 : Yba.prog.bytesOf 5 = 1 := by kernel_rfl
theorem bytes28 : Yba.prog.bytesOf 28 = 1 := by kernel_rfl
theorem laidOut : laidOutB Yba.prog = true := by kernel_rfl

/-- WHAT THE WALK IS TOLD OF A SLICE OF INTEGERS THAT CAME IN: it is nil; or it leads to a row of 'cap' cells, the numbers 'zs' (the first 'len' are its elements, the rest its spare room), each fitting its kind. -/
def IsRow (k : IntKind) (w : World) (a : Option Addr) (len cap : Nat) (zs : List Int) : Prop :=
  (a = none ∧ len = 0 ∧ cap = 0 ∧ zs = []) ∨
  ∃ x, a = some x ∧ len ≤ cap ∧ cap ≤ maxLen ∧ zs.length = cap ∧ (∀ i, i < zs.length → w.cell? (x.add i) = some (.int k (zs.getD i 0))) ∧ ∀ n ∈ zs, (Lit.int k n).wf = true

theorem row_len {k : IntKind} {w : World} {a : Option Addr} {len cap : Nat} {zs : List Int} (h : IsRow k w a len cap zs) : len ≤ cap := by
  rcases h with ⟨_, rfl, _⟩ | ⟨_, _, h1, h2, _⟩
  · exact Nat.zero_le _
  · exact h1
theorem came {k : IntKind} {w : World} {a : Option Addr} {len cap : Nat} {zs : List Int} (h : IsRow k w a len cap zs) : Came w k a len (fun j => zs.getD j 0) := by
  intro hl
  rcases h with ⟨_, h, _⟩ | ⟨x, rfl, hlc, hm, hz, hcell, hwf⟩
  · omega
  · obtain ⟨b, off, rfl, hc⟩ := ints_at hcell (by omega)
    exact ⟨b, off, rfl, cell_lt (hc 0 (by omega)), fun j hj => hc j (by omega)⟩
theorem getD_wf {k : IntKind} {w : World} {a : Option Addr} {len cap : Nat} {zs : List Int} (h : IsRow k w a len cap zs) (h0 : (Lit.int k 0).wf = true) (j : Nat) : (Lit.int k (zs.getD j 0)).wf = true := by
  rcases h with ⟨_, _, _, rfl⟩ | ⟨x, rfl, hlc, hm, hz, hcell, hwf⟩
  · simpa using h0
  · by_cases hj : j < zs.length
    · rw [List.getD_eq_getElem?_getD, List.getElem?_eq_getElem hj]
      exact hwf _ (List.getElem_mem hj)
    · rw [List.getD_eq_getElem?_getD, List.getElem?_eq_none (by omega)]
      simpa using h0
theorem bd8 {w : World} {a : Option Addr} {len cap : Nat} {zs : List Int} (h : IsRow .u8 w a len cap zs) (j : Nat) : 0 ≤ zs.getD j 0 ∧ zs.getD j 0 ≤ 255 := bounds_u8 (getD_wf h (by decide) j)
theorem bdi8 {w : World} {a : Option Addr} {len cap : Nat} {zs : List Int} (h : IsRow .i8 w a len cap zs) (j : Nat) : -128 ≤ zs.getD j 0 ∧ zs.getD j 0 ≤ 127 := by
  have := getD_wf h (by decide) j
  generalize zs.getD j 0 = z at *
  simp [Lit.wf, IntKind.min, IntKind.max, IntKind.signed, IntKind.bits] at this
  omega
set_option maxRecDepth 100000 in
theorem big_walk (a0 : Option Addr) (len0 cap0 : Nat) (a1 : Option Addr) (len1 cap1 : Nat) (a2 : Option Addr) (len2 cap2 : Nat) (a3 : Option Addr) (len3 cap3 : Nat) (a4 : Int) (w : World) (hb : 65536 < len0 + len1 + len2 + len3) (h0 : len0 ≤ 140737488351232) (h1 : len1 ≤ 140737488351232) (h2 : len2 ≤ 140737488351232) (h3 : len3 ≤ 140737488351232) :
    Calls Yba.prog 3 #[.slice a0 len0 cap0, .slice a1 len1 cap1, .slice a2 len2 cap2, .slice a3 len3 cap3, .int .u8 a4] w fun e w' => e = .returned (.bool true) ∧ Below w.heap.size w w' := by
  go_enter Yba.func3, Yba.ntmps3
  go_wp2_with fail
  go_ret
  exact ⟨rfl, Below.refl _ _⟩

/-! ### STEP 1: THE WALK: the Go text returns true, AND WRITES NOTHING THAT WAS THERE: 'Below w.heap.size w w'' (Derived/Below.lean: '.refl', '.alloc', '.drew', '.setCell' at a new block, '.trans'). Open each 'IsRow' by 'rcases' AHEAD of 'go_enter'; part every test ahead of the walk. -/
theorem walk (a0 : Option Addr) (len0 cap0 : Nat) (z0 : List Int) (a1 : Option Addr) (len1 cap1 : Nat) (z1 : List Int) (a2 : Option Addr) (len2 cap2 : Nat) (z2 : List Int) (a3 : Option Addr) (len3 cap3 : Nat) (z3 : List Int) (a4 : Int) (w : World) (w0 : IsRow .u8 w a0 len0 cap0 z0) (w1 : IsRow .u8 w a1 len1 cap1 z1) (w2 : IsRow .i8 w a2 len2 cap2 z2) (w3 : IsRow .u8 w a3 len3 cap3 z3) (w4 : (Lit.int .u8 a4).wf = true) (s0 : cap0 * 1 ≤ 140737488351232) (s1 : cap1 * 1 ≤ 140737488351232) (s2 : cap2 * 1 ≤ 140737488351232) (s3 : cap3 * 1 ≤ 140737488351232) :
    Calls Yba.prog 3 #[.slice a0 len0 cap0, .slice a1 len1 cap1, .slice a2 len2 cap2, .slice a3 len3 cap3, .int .u8 a4] w fun e w' => e = .returned (.bool true) ∧ Below w.heap.size w w' := by
  have l0 := row_len w0
  have l1 := row_len w1
  have l2 := row_len w2
  have l3 := row_len w3
  by_cases hbig : 65536 < len0 + len1 + len2 + len3
  · exact big_walk a0 len0 cap0 a1 len1 cap1 a2 len2 cap2 a3 len3 cap3 a4 w hbig (by omega) (by omega) (by omega) (by omega)
  · refine whole_walk a0 a1 a2 a3 len0 cap0 len1 cap1 len2 cap2 len3 cap3 (fun j => z0.getD j 0) (fun j => z1.getD j 0) (fun j => z2.getD j 0) (fun j => z3.getD j 0) a4 w (came w0) (came w1) (came w2) (came w3) (fun j => bd8 w0 j) (fun j => bd8 w1 j) (fun j => bdi8 w2 j) (fun j => bd8 w3 j) (bounds_u8 w4) (by omega) ?_
    intro h
    rcases w0 with ⟨_, h0, _⟩ | ⟨x, hx, _⟩
    · exact h0
    · rw [hx] at h; simp at h

/-! ### THE ROW's STEP: WRITTEN OUT: LEAVE IT -/
set_option maxRecDepth 100000 in
theorem lifted (os : Os) (started : os.Started) (H : Type) (enc : TypeId × Value → H) :
    ReturnsInHanded {} Yba.checked os 3 .any (Rows.lawS5580AWholeSpec.pre6 enc Yba.prog Yba.f3 Rows.lawS5580AWholeRow.domain false) (Rows.lawS5580AWholeSpec.post enc Yba.prog Yba.f3 false true false false) := by
  refine returnsInHanded_of_change_sized (C := Yba.checked) own started (by kernel_rfl) Yba.func3
    (ChangeSpec.witness6 (enc := enc) (C := Yba.checked) false ⟨#[], #[.slice none 0 0, .slice none 0 0, .slice none 0 0, .slice none 0 0, .int .u8 0], []⟩ 8 (by kernel_rfl) (by kernel_rfl) (by kernel_rfl) (by kernel_rfl)) ?_
  intro W base args ds gs before hval0 hW hcnd hsz0 _
  have hval : ∀ (j : Nat) t v, Yba.f3.params[j]? = some t → args[j]? = some v → Value.okWide Yba.prog W .any base t v := hval0
  have hsz : (DataW.weightsEach Yba.prog (Yba.f3.params.toList ++ Rows.lawS5580AWholeSpec.plain.varTypes Yba.prog) (ds ++ gs)).all (· ≤ reachBytes) = true := hsz0
  clear hsz0
  have hW' := hW
  obtain ⟨p, q, hA0, hV, rfl, hfz, hnd⟩ := hW
  have hA : DataW.TrodAll enc Yba.prog W 0 (fun _ => true) true Yba.f3.params.toList args.toList ds p := hA0
  rw [Yba.params3] at hA hval hsz
  obtain ⟨v0, vs0, d0, ds0, p0, q0, hargs, rfl, rfl, h0, r0⟩ := trodAll_cons hA
  obtain ⟨v1, vs1, d1, ds1, p1, q1, rfl, rfl, rfl, h1, r1⟩ := trodAll_cons r0
  obtain ⟨v2, vs2, d2, ds2, p2, q2, rfl, rfl, rfl, h2, r2⟩ := trodAll_cons r1
  obtain ⟨v3, vs3, d3, ds3, p3, q3, rfl, rfl, rfl, h3, r3⟩ := trodAll_cons r2
  obtain ⟨v4, vs4, d4, ds4, p4, q4, rfl, rfl, rfl, h4, r4⟩ := trodAll_cons r3
  obtain ⟨rfl, rfl, rfl⟩ := trodAll_nil r4
  obtain rfl : args = #[v0, v1, v2, v3, v4] := by cases args; simp_all
  obtain ⟨rfl, rfl⟩ := trodVars_none hV
  obtain ⟨a0, len0, cap0, rfl⟩ := okWide_slice Yba.underlying22 (hval 0 22 v0 rfl rfl)
  have k0 := h0
  have lt0 : ∀ x ∈ p0, x.block < W.heap.size := by obtain ⟨m, hm⟩ := k0; exact DataW.trod_lt m _ _ _ hm
  obtain ⟨z0, w0, s0⟩ : ∃ zs, IsRow .u8 W a0 len0 cap0 zs ∧ cap0 * 1 ≤ 140737488351232 := by
    obtain ⟨fuel, hf⟩ := h0
    rcases open_ints Yba.underlying22 Yba.underlying5 (by kernel_rfl) hf with ⟨hcs, _⟩ | ⟨x, l, c, zs, hcs, _, hl, hm, hz, hx, hcell, hwz⟩
    · simp [Value.cells] at hcs
      obtain ⟨rfl, rfl, rfl⟩ := hcs
      exact ⟨[], .inl ⟨rfl, rfl, rfl, rfl⟩, by omega⟩
    · simp [Value.cells] at hcs
      obtain ⟨rfl, rfl, rfl⟩ := hcs
      have hz' : zs.length = cap0 := by simpa using hz
      have hd := congrArg Prod.fst hx
      have hs := sized_slice hsz (j := 0) (t := 22) (e := 5) rfl (congrArg some hd) Yba.underlying22
      rw [bytes5] at hs
      simp only [lits, List.length_map, List.length_take, List.length_drop, reachBytes] at hs
      exact ⟨zs, .inr ⟨_, rfl, hl, hm, hz', hcell, hwz⟩, by omega⟩
  obtain ⟨a1, len1, cap1, rfl⟩ := okWide_slice Yba.underlying22 (hval 1 22 v1 rfl rfl)
  have k1 := h1
  have lt1 : ∀ x ∈ p1, x.block < W.heap.size := by obtain ⟨m, hm⟩ := k1; exact DataW.trod_lt m _ _ _ hm
  obtain ⟨z1, w1, s1⟩ : ∃ zs, IsRow .u8 W a1 len1 cap1 zs ∧ cap1 * 1 ≤ 140737488351232 := by
    obtain ⟨fuel, hf⟩ := h1
    rcases open_ints Yba.underlying22 Yba.underlying5 (by kernel_rfl) hf with ⟨hcs, _⟩ | ⟨x, l, c, zs, hcs, _, hl, hm, hz, hx, hcell, hwz⟩
    · simp [Value.cells] at hcs
      obtain ⟨rfl, rfl, rfl⟩ := hcs
      exact ⟨[], .inl ⟨rfl, rfl, rfl, rfl⟩, by omega⟩
    · simp [Value.cells] at hcs
      obtain ⟨rfl, rfl, rfl⟩ := hcs
      have hz' : zs.length = cap1 := by simpa using hz
      have hd := congrArg Prod.fst hx
      have hs := sized_slice hsz (j := 1) (t := 22) (e := 5) rfl (congrArg some hd) Yba.underlying22
      rw [bytes5] at hs
      simp only [lits, List.length_map, List.length_take, List.length_drop, reachBytes] at hs
      exact ⟨zs, .inr ⟨_, rfl, hl, hm, hz', hcell, hwz⟩, by omega⟩
  obtain ⟨a2, len2, cap2, rfl⟩ := okWide_slice Yba.underlying23 (hval 2 23 v2 rfl rfl)
  have k2 := h2
  have lt2 : ∀ x ∈ p2, x.block < W.heap.size := by obtain ⟨m, hm⟩ := k2; exact DataW.trod_lt m _ _ _ hm
  obtain ⟨z2, w2, s2⟩ : ∃ zs, IsRow .i8 W a2 len2 cap2 zs ∧ cap2 * 1 ≤ 140737488351232 := by
    obtain ⟨fuel, hf⟩ := h2
    rcases open_ints Yba.underlying23 Yba.underlying28 (by kernel_rfl) hf with ⟨hcs, _⟩ | ⟨x, l, c, zs, hcs, _, hl, hm, hz, hx, hcell, hwz⟩
    · simp [Value.cells] at hcs
      obtain ⟨rfl, rfl, rfl⟩ := hcs
      exact ⟨[], .inl ⟨rfl, rfl, rfl, rfl⟩, by omega⟩
    · simp [Value.cells] at hcs
      obtain ⟨rfl, rfl, rfl⟩ := hcs
      have hz' : zs.length = cap2 := by simpa using hz
      have hd := congrArg Prod.fst hx
      have hs := sized_slice hsz (j := 2) (t := 23) (e := 28) rfl (congrArg some hd) Yba.underlying23
      rw [bytes28] at hs
      simp only [lits, List.length_map, List.length_take, List.length_drop, reachBytes] at hs
      exact ⟨zs, .inr ⟨_, rfl, hl, hm, hz', hcell, hwz⟩, by omega⟩
  obtain ⟨a3, len3, cap3, rfl⟩ := okWide_slice Yba.underlying22 (hval 3 22 v3 rfl rfl)
  have k3 := h3
  have lt3 : ∀ x ∈ p3, x.block < W.heap.size := by obtain ⟨m, hm⟩ := k3; exact DataW.trod_lt m _ _ _ hm
  obtain ⟨z3, w3, s3⟩ : ∃ zs, IsRow .u8 W a3 len3 cap3 zs ∧ cap3 * 1 ≤ 140737488351232 := by
    obtain ⟨fuel, hf⟩ := h3
    rcases open_ints Yba.underlying22 Yba.underlying5 (by kernel_rfl) hf with ⟨hcs, _⟩ | ⟨x, l, c, zs, hcs, _, hl, hm, hz, hx, hcell, hwz⟩
    · simp [Value.cells] at hcs
      obtain ⟨rfl, rfl, rfl⟩ := hcs
      exact ⟨[], .inl ⟨rfl, rfl, rfl, rfl⟩, by omega⟩
    · simp [Value.cells] at hcs
      obtain ⟨rfl, rfl, rfl⟩ := hcs
      have hz' : zs.length = cap3 := by simpa using hz
      have hd := congrArg Prod.fst hx
      have hs := sized_slice hsz (j := 3) (t := 22) (e := 5) rfl (congrArg some hd) Yba.underlying22
      rw [bytes5] at hs
      simp only [lits, List.length_map, List.length_take, List.length_drop, reachBytes] at hs
      exact ⟨zs, .inr ⟨_, rfl, hl, hm, hz', hcell, hwz⟩, by omega⟩
  obtain ⟨a4, rfl, rfl, rfl, w4⟩ := open_int Yba.underlying5 (hval 4 5 v4 rfl rfl) h4
  clear hA0 hval0
  refine (walk a0 len0 cap0 z0 a1 len1 cap1 z1 a2 len2 cap2 z2 a3 len3 cap3 z3 a4 W w0 w1 w2 w3 w4 s0 s1 s2 s3).mono fun e W' ⟨he, bel⟩ => ?_
  subst he
  exact ⟨_, rfl, _, _, _, [], _, [], hW', trodAll_mk1 (shut_bool Yba.underlying4 _), (trodAll_cons_mk (Below.trod laidOut (by kernel_rfl) (of_decide_eq_true (by kernel_rfl)) k0 bel lt0) (trodAll_cons_mk (Below.trod laidOut (by kernel_rfl) (of_decide_eq_true (by kernel_rfl)) k1 bel lt1) (trodAll_cons_mk (Below.trod laidOut (by kernel_rfl) (of_decide_eq_true (by kernel_rfl)) k2 bel lt2) (trodAll_cons_mk (Below.trod laidOut (by kernel_rfl) (of_decide_eq_true (by kernel_rfl)) k3 bel lt3) (trodAll_cons_mk (shut_int Yba.underlying5 w4) trodAll_mk0))))), rfl, bel.frame _, fun h => by cases h⟩

theorem over : Rows.lawS5580AWholeRow.holds Yba.pinned (OpenSpec.ofChange Rows.lawS5580AWholeSpec) :=
  OpenClaim.holds_of_wide 3 Yba.f3 rfl rfl rfl rfl rfl rfl rfl ⟨rfl, rfl, rfl, rfl, rfl⟩ rfl rfl rfl rfl rfl (by kernel_rfl) Yba.func3 (by kernel_rfl)
    (of_decide_eq_true (by kernel_rfl)) (by unfold Func.isWrapper; first | (rw [if_pos (by decide +kernel)]; kernel_rfl) | (rw [if_neg (by decide +kernel)]; exact ⟨rfl, rfl⟩))
    (fun os started H enc _ => lifted os started H enc)

/-- ████ THE STATEMENT ████ -/
theorem proved : Rows.LawS5580AWholeSaid := over
end Go.Proofs.Ybulkdknq.lawS5580AWhole
