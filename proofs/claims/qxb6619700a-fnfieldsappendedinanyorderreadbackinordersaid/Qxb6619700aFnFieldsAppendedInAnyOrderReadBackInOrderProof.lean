/- FnFieldsAppendedInAnyOrderReadBackInOrder answers true at every input: the row over the walk (the frame after the skeleton's, at four slices). -/
import Derived.Test.Qxb6619700aFld2
import Derived.WalkKit
import Derived.ProofKit
import Derived.OpenShut
import Derived.ShutString
import Derived.ChangeOld
import Derived.Below
import Derived.SliceStrings
import Derived.Deep.Grids
namespace Go.Proofs.Qxb6619700a.fnFieldsAppendedInAnyOrderReadBackInOrder
open Go.ChangeShapes Go.WideShapes Go.ChangeAt Go.RowKit
set_option linter.unusedVariables false

theorem own : ownKnob Try.prog.godebug = none := by kernel_rfl
theorem laidOut : laidOutB Try.prog = true := by kernel_rfl

/-- from cells at an address to the row that the walk is told of -/
theorem row_of (w : World) (x : Addr) (n : Nat) (xs : List Value) (hn : xs.length = n) (hc : ∀ i (hi : i < xs.length), w.cell? (x.add i) = some xs[i]) : Row w (some x) n xs := by
  refine ⟨hn, fun k hk => ?_⟩
  obtain ⟨b, off, spot⟩ := x
  have hspot : spot = none := by simpa [Addr.add] using World.cell?_spot (hc 0 (by omega))
  subst hspot
  have h := hc k hk
  rw [add_plain] at h
  exact ⟨b, off, rfl, World.block_lt_of_cell? w _ h, h⟩
theorem row_nil (w : World) (a : Option Addr) : Row w a 0 [] := ⟨rfl, fun k hk => by simp at hk⟩

theorem maxLen_le {n : Nat} (h : n ≤ maxLen) : n ≤ 9223372036854775807 := by unfold maxLen at h; omega

theorem ints_row {k : IntKind} {w : World} {a : Addr} {len cap : Nat} {zs : List Int} (hl : len ≤ zs.length) (hcell : ∀ i, i < zs.length → w.cell? (a.add i) = some (.int k (zs.getD i 0))) :
    Row w (some a) len ((zs.take len).map (Value.int k)) := by
  refine row_of w a len _ (by rw [List.length_map, List.length_take]; omega) (fun i hi => ?_)
  have hi2 : i < len := by rw [List.length_map, List.length_take] at hi; omega
  rw [hcell i (by omega), List.getElem_map, List.getElem_take]
  simp [List.getD, List.getElem?_eq_getElem (show i < zs.length by omega)]
theorem strs_row {w : World} {a : Addr} {len cap : Nat} {ss : List ByteArray} (hl : len ≤ ss.length) (hcell : ∀ i, i < ss.length → w.cell? (a.add i) = some (.string (ss.getD i ByteArray.empty))) :
    Row w (some a) len (strVals (ss.take len)) := by
  have h : Row w (some a) len ((ss.take len).map Value.string) := by
    refine row_of w a len _ (by rw [List.length_map, List.length_take]; omega) (fun i hi => ?_)
    have hi2 : i < len := by rw [List.length_map, List.length_take] at hi; omega
    rw [hcell i (by omega), List.getElem_map, List.getElem_take]
    simp [List.getD, List.getElem?_eq_getElem (show i < ss.length by omega)]
  exact h

theorem getD_take_i64 {zs : List Int} (len : Nat) (hw : ∀ n ∈ zs, (Lit.int .i64 n).wf = true) (k : Nat) : -9223372036854775808 ≤ (zs.take len).getD k 0 ∧ (zs.take len).getD k 0 ≤ 9223372036854775807 := by
  by_cases hk : k < (zs.take len).length
  · have e : (zs.take len).getD k 0 = (zs.take len)[k] := by simp [List.getD, List.getElem?_eq_getElem hk]
    rw [e]
    exact bounds_i64 (hw _ (List.mem_of_mem_take (List.getElem_mem hk)))
  · rw [List.getD, List.getElem?_eq_none (by omega)]; simp
theorem getD_take_u64 {zs : List Int} (len : Nat) (hw : ∀ n ∈ zs, (Lit.int .u64 n).wf = true) (k : Nat) : 0 ≤ (zs.take len).getD k 0 ∧ (zs.take len).getD k 0 ≤ 18446744073709551615 := by
  by_cases hk : k < (zs.take len).length
  · have e : (zs.take len).getD k 0 = (zs.take len)[k] := by simp [List.getD, List.getElem?_eq_getElem hk]
    rw [e]
    exact bounds_u64 (hw _ (List.mem_of_mem_take (List.getElem_mem hk)))
  · rw [List.getD, List.getElem?_eq_none (by omega)]; simp

theorem bools_row {w : World} {a : Addr} {len cap : Nat} {B : Nat → Bool} (hl : len ≤ cap) (hcell : ∀ i, i < cap → w.cell? (a.add i) = some (.bool (B i))) :
    Row w (some a) len (((List.range len).map B).map Value.bool) := by
  refine row_of w a len _ (by simp) (fun i hi => ?_)
  have hi2 : i < len := by simpa using hi
  rw [hcell i (by omega)]
  simp

theorem cells4 : Try.prog.cellsOf 4 = 1 := by kernel_rfl
theorem cells3 : Try.prog.cellsOf 3 = 1 := by kernel_rfl
theorem cells27 : Try.prog.cellsOf 27 = 1 := by kernel_rfl
theorem cells9 : Try.prog.cellsOf 9 = 1 := by kernel_rfl

/-! ### THE ROW's STEP -/
set_option maxRecDepth 100000 in
theorem lifted (os : Os) (started : os.Started) (H : Type) (enc : TypeId × Value → H) :
    ReturnsInHanded {} Try.checked os 5 .any (Rows.fnFieldsAppendedInAnyOrderReadBackInOrderSpec.pre6 enc Try.prog Try.f5 Rows.fnFieldsAppendedInAnyOrderReadBackInOrderRow.domain false) (Rows.fnFieldsAppendedInAnyOrderReadBackInOrderSpec.post enc Try.prog Try.f5 false true false false) := by
  refine returnsInHanded_of_change (C := Try.checked) own started (by kernel_rfl) Try.func5
    (ChangeSpec.witness6 (enc := enc) (C := Try.checked) false ⟨#[], #[.slice none 0 0, .slice none 0 0, .slice none 0 0, .slice none 0 0], []⟩ 8 (by kernel_rfl) (by kernel_rfl) (by kernel_rfl) (by kernel_rfl)) ?_
  intro W base args ds gs before hval0 hW hcnd _
  have hval : ∀ (j : Nat) t v, Try.f5.params[j]? = some t → args[j]? = some v → Value.okWide Try.prog W .any base t v := hval0
  have hW' := hW
  obtain ⟨p, q, hA0, hV, rfl, hfz, hnd⟩ := hW
  have hA : DataW.TrodAll enc Try.prog W 0 (fun _ => true) true Try.f5.params.toList args.toList ds p := hA0
  rw [Try.params5] at hA hval
  obtain ⟨v0, vs0, d0, ds0, p0, q0, hargs, rfl, rfl, h0, r0⟩ := trodAll_cons hA
  obtain ⟨v1, vs1, d1, ds1, p1, q1, rfl, rfl, rfl, h1, r1⟩ := trodAll_cons r0
  obtain ⟨v2, vs2, d2, ds2, p2, q2, rfl, rfl, rfl, h2, r2⟩ := trodAll_cons r1
  obtain ⟨v3, vs3, d3, ds3, p3, q3, rfl, rfl, rfl, h3, r3⟩ := trodAll_cons r2
  obtain ⟨rfl, rfl, rfl⟩ := trodAll_nil r3
  obtain rfl : args = #[v0, v1, v2, v3] := by cases args; simp_all
  obtain ⟨rfl, rfl⟩ := trodVars_none hV
  obtain ⟨a0, len0, cap0, rfl⟩ := okWide_slice Try.underlying38 (hval 0 38 v0 rfl rfl)
  obtain ⟨a1, len1, cap1, rfl⟩ := okWide_slice Try.underlying39 (hval 1 39 v1 rfl rfl)
  obtain ⟨a2, len2, cap2, rfl⟩ := okWide_slice Try.underlying40 (hval 2 40 v2 rfl rfl)
  obtain ⟨a3, len3, cap3, rfl⟩ := okWide_slice Try.underlying22 (hval 3 22 v3 rfl rfl)
  have k0 := h0
  have k1 := h1
  have k2 := h2
  have k3 := h3
  have lt0 : ∀ x ∈ p0, x.block < W.heap.size := by obtain ⟨m, hm⟩ := k0; exact DataW.trod_lt m _ _ _ hm
  have lt1 : ∀ x ∈ p1, x.block < W.heap.size := by obtain ⟨m, hm⟩ := k1; exact DataW.trod_lt m _ _ _ hm
  have lt2 : ∀ x ∈ p2, x.block < W.heap.size := by obtain ⟨m, hm⟩ := k2; exact DataW.trod_lt m _ _ _ hm
  have lt3 : ∀ x ∈ p3, x.block < W.heap.size := by obtain ⟨m, hm⟩ := k3; exact DataW.trod_lt m _ _ _ hm
  obtain ⟨bs, w0, l0⟩ : ∃ bs : List Bool, Row W a0 len0 (bs.map Value.bool) ∧ len0 ≤ 9223372036854775807 := by
    obtain ⟨fuel, hf⟩ := h0
    rcases Go.Deep.open_bools Try.underlying38 Try.underlying4 cells4 hf with ⟨hcs, _⟩ | ⟨x, l, c, B, hcs, _, hl, hm, _, hcell⟩
    · simp [Value.cells] at hcs
      obtain ⟨rfl, rfl, rfl⟩ := hcs
      exact ⟨[], row_nil _ _, by omega⟩
    · simp [Value.cells] at hcs
      obtain ⟨rfl, rfl, rfl⟩ := hcs
      exact ⟨(List.range len0).map B, bools_row hl hcell, by have := maxLen_le hm; omega⟩
  obtain ⟨fs, w1, b1, l1⟩ : ∃ fs : List Int, Row W a1 len1 (fs.map (Value.int .i64)) ∧ (∀ k, -9223372036854775808 ≤ fs.getD k 0 ∧ fs.getD k 0 ≤ 9223372036854775807) ∧ len1 ≤ 9223372036854775807 := by
    obtain ⟨fuel, hf⟩ := h1
    rcases open_ints Try.underlying39 Try.underlying3 cells3 hf with ⟨hcs, _⟩ | ⟨x, l, c, zs, hcs, _, hl, hm, hz, _, hcell, hwz⟩
    · simp [Value.cells] at hcs
      obtain ⟨rfl, rfl, rfl⟩ := hcs
      exact ⟨[], row_nil _ _, fun k => by simp, by omega⟩
    · simp [Value.cells] at hcs
      obtain ⟨rfl, rfl, rfl⟩ := hcs
      simp only [if_true] at hz
      exact ⟨zs.take len1, ints_row (cap := cap1) (by omega) hcell, getD_take_i64 len1 hwz, by have := maxLen_le hm; omega⟩
  obtain ⟨vs, w2, b2, l2⟩ : ∃ vs : List Int, Row W a2 len2 (vs.map (Value.int .u64)) ∧ (∀ k, 0 ≤ vs.getD k 0 ∧ vs.getD k 0 ≤ 18446744073709551615) ∧ len2 ≤ 9223372036854775807 := by
    obtain ⟨fuel, hf⟩ := h2
    rcases open_ints Try.underlying40 Try.underlying27 cells27 hf with ⟨hcs, _⟩ | ⟨x, l, c, zs, hcs, _, hl, hm, hz, _, hcell, hwz⟩
    · simp [Value.cells] at hcs
      obtain ⟨rfl, rfl, rfl⟩ := hcs
      exact ⟨[], row_nil _ _, fun k => by simp, by omega⟩
    · simp [Value.cells] at hcs
      obtain ⟨rfl, rfl, rfl⟩ := hcs
      simp only [if_true] at hz
      exact ⟨zs.take len2, ints_row (cap := cap2) (by omega) hcell, getD_take_u64 len2 hwz, by have := maxLen_le hm; omega⟩
  obtain ⟨ss, w3, l3⟩ : ∃ ss : List ByteArray, Row W a3 len3 (strVals ss) ∧ len3 ≤ 9223372036854775807 := by
    obtain ⟨fuel, hf⟩ := h3
    rcases open_strings Try.underlying22 Try.underlying9 cells9 hf with ⟨hcs, _⟩ | ⟨x, l, c, zs, hcs, _, hl, hm, hz, _, hcell, hwz⟩
    · simp [Value.cells] at hcs
      obtain ⟨rfl, rfl, rfl⟩ := hcs
      exact ⟨[], row_nil _ _, by omega⟩
    · simp [Value.cells] at hcs
      obtain ⟨rfl, rfl, rfl⟩ := hcs
      simp only [if_true] at hz
      exact ⟨zs.take len3, strs_row (cap := cap3) (by omega) hcell, by have := maxLen_le hm; omega⟩
  clear hA0 hval0
  refine (fields_walk a0 a1 a2 a3 len0 len1 len2 len3 cap0 cap1 cap2 cap3 bs fs vs ss W l0 l1 l2 l3 ⟨w0, w1, w2, w3, b1, b2⟩).mono fun e W' ⟨he, bel⟩ => ?_
  subst he
  exact ⟨_, rfl, _, _, _, [], _, [], hW', trodAll_mk1 (shut_bool Try.underlying4 _), (trodAll_cons_mk (Below.trod laidOut (by kernel_rfl) (of_decide_eq_true (by kernel_rfl)) k0 bel lt0) (trodAll_cons_mk (Below.trod laidOut (by kernel_rfl) (of_decide_eq_true (by kernel_rfl)) k1 bel lt1) (trodAll_cons_mk (Below.trod laidOut (by kernel_rfl) (of_decide_eq_true (by kernel_rfl)) k2 bel lt2) (trodAll_cons_mk (Below.trod laidOut (by kernel_rfl) (of_decide_eq_true (by kernel_rfl)) k3 bel lt3) trodAll_mk0)))), rfl, bel.frame _, fun h => by cases h⟩

theorem over : Rows.fnFieldsAppendedInAnyOrderReadBackInOrderRow.holds Try.pinned (OpenSpec.ofChange Rows.fnFieldsAppendedInAnyOrderReadBackInOrderSpec) :=
  OpenClaim.holds_of_wide 5 Try.f5 rfl rfl rfl rfl rfl rfl rfl ⟨rfl, rfl, rfl, rfl, rfl⟩ rfl rfl rfl rfl rfl (by kernel_rfl) Try.func5 (by kernel_rfl)
    (of_decide_eq_true (by kernel_rfl)) (by unfold Func.isWrapper; first | (rw [if_pos (by decide +kernel)]; kernel_rfl) | (rw [if_neg (by decide +kernel)]; exact ⟨rfl, rfl⟩))
    (fun os started H enc _ => lifted os started H enc)

/-- THE STATEMENT -/
theorem proved : Rows.FnFieldsAppendedInAnyOrderReadBackInOrderSaid := over
#print axioms proved
end Go.Proofs.Qxb6619700a.fnFieldsAppendedInAnyOrderReadBackInOrder
