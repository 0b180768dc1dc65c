/- FnStrInternsEachStringOnceInFirstSeenOrder answers true at every input: the row over the walk (the frame after the skeleton's, at one slice of strings). -/
import Derived.Test.Qxb6619700aStr2
import Derived.WalkKit
import Derived.ProofKit
import Derived.OpenShut
import Derived.ShutString
import Derived.ChangeOld
import Derived.Below
import Derived.SliceStrings
namespace Go.Proofs.Qxb6619700a.fnStrInternsEachStringOnceInFirstSeenOrder
open Go.ChangeShapes Go.WideShapes Go.ChangeAt Go.RowKit
set_option linter.unusedVariables false

theorem own : ownKnob Try.prog.godebug = none := by kernel_rfl
theorem laidOut : laidOutB Try.prog = true := by kernel_rfl
theorem cells9 : Try.prog.cellsOf 9 = 1 := by kernel_rfl

/-- from cells at an address to the row that the walk is told of -/
theorem row_of (w : World) (x : Addr) (n : Nat) (xs : List Value) (hn : xs.length = n) (hc : ∀ i (hi : i < xs.length), w.cell? (x.add i) = some xs[i]) : Row w (some x) n xs := by
  refine ⟨hn, fun k hk => ?_⟩
  obtain ⟨b, off, spot⟩ := x
  have hspot : spot = none := by simpa [Addr.add] using World.cell?_spot (hc 0 (by omega))
  subst hspot
  have h := hc k hk
  rw [add_plain] at h
  exact ⟨b, off, rfl, World.block_lt_of_cell? w _ h, h⟩
theorem row_nil (w : World) (a : Option Addr) : Row w a 0 [] := ⟨rfl, fun k hk => by simp at hk⟩
theorem maxLen_le {n : Nat} (h : n ≤ maxLen) : n ≤ 9223372036854775807 := by unfold maxLen at h; omega
theorem strs_row {w : World} {a : Addr} {len cap : Nat} {ss : List ByteArray} (hl : len ≤ ss.length) (hcell : ∀ i, i < ss.length → w.cell? (a.add i) = some (.string (ss.getD i ByteArray.empty))) :
    Row w (some a) len (strVals (ss.take len)) := by
  have h : Row w (some a) len ((ss.take len).map Value.string) := by
    refine row_of w a len _ (by rw [List.length_map, List.length_take]; omega) (fun i hi => ?_)
    have hi2 : i < len := by rw [List.length_map, List.length_take] at hi; omega
    rw [hcell i (by omega), List.getElem_map, List.getElem_take]
    simp [List.getD, List.getElem?_eq_getElem (show i < ss.length by omega)]
  exact h

/-! ### THE ROW's STEP -/
set_option maxRecDepth 100000 in
theorem lifted (os : Os) (started : os.Started) (H : Type) (enc : TypeId × Value → H) :
    ReturnsInHanded {} Try.checked os 3 .any (Rows.fnStrInternsEachStringOnceInFirstSeenOrderSpec.pre6 enc Try.prog Try.f3 Rows.fnStrInternsEachStringOnceInFirstSeenOrderRow.domain false) (Rows.fnStrInternsEachStringOnceInFirstSeenOrderSpec.post enc Try.prog Try.f3 false true false false) := by
  refine returnsInHanded_of_change (C := Try.checked) own started (by kernel_rfl) Try.func3
    (ChangeSpec.witness6 (enc := enc) (C := Try.checked) false ⟨#[], #[.slice none 0 0], []⟩ 8 (by kernel_rfl) (by kernel_rfl) (by kernel_rfl) (by kernel_rfl)) ?_
  intro W base args ds gs before hval0 hW hcnd _
  have hval : ∀ (j : Nat) t v, Try.f3.params[j]? = some t → args[j]? = some v → Value.okWide Try.prog W .any base t v := hval0
  have hW' := hW
  obtain ⟨p, q, hA0, hV, rfl, hfz, hnd⟩ := hW
  have hA : DataW.TrodAll enc Try.prog W 0 (fun _ => true) true Try.f3.params.toList args.toList ds p := hA0
  rw [Try.params3] at hA hval
  obtain ⟨v3, vs3, d3, ds3, p3, q3, hargs, rfl, rfl, h3, r3⟩ := trodAll_cons hA
  obtain ⟨rfl, rfl, rfl⟩ := trodAll_nil r3
  obtain rfl : args = #[v3] := by cases args; simp_all
  obtain ⟨rfl, rfl⟩ := trodVars_none hV
  obtain ⟨a3, len3, cap3, rfl⟩ := okWide_slice Try.underlying22 (hval 0 22 v3 rfl rfl)
  have k3 := h3
  have lt3 : ∀ x ∈ p3, x.block < W.heap.size := by obtain ⟨m, hm⟩ := k3; exact DataW.trod_lt m _ _ _ hm
  obtain ⟨ss, w3, l3⟩ : ∃ ss : List ByteArray, Row W a3 len3 (strVals ss) ∧ len3 ≤ 9223372036854775807 := by
    obtain ⟨fuel, hf⟩ := h3
    rcases open_strings Try.underlying22 Try.underlying9 cells9 hf with ⟨hcs, _⟩ | ⟨x, l, c, zs, hcs, _, hl, hm, hz, _, hcell, hwz⟩
    · simp [Value.cells] at hcs
      obtain ⟨rfl, rfl, rfl⟩ := hcs
      exact ⟨[], row_nil _ _, by omega⟩
    · simp [Value.cells] at hcs
      obtain ⟨rfl, rfl, rfl⟩ := hcs
      simp only [if_true] at hz
      exact ⟨zs.take len3, strs_row (cap := cap3) (by omega) hcell, by have := maxLen_le hm; omega⟩
  clear hA0 hval0
  refine (str_walk a3 len3 cap3 ss W l3 w3).mono fun e W' ⟨he, bel⟩ => ?_
  subst he
  exact ⟨_, rfl, _, _, _, [], _, [], hW', trodAll_mk1 (shut_bool Try.underlying4 _), (trodAll_cons_mk (Below.trod laidOut (by kernel_rfl) (of_decide_eq_true (by kernel_rfl)) k3 bel lt3) trodAll_mk0), rfl, bel.frame _, fun h => by cases h⟩

theorem over : Rows.fnStrInternsEachStringOnceInFirstSeenOrderRow.holds Try.pinned (OpenSpec.ofChange Rows.fnStrInternsEachStringOnceInFirstSeenOrderSpec) :=
  OpenClaim.holds_of_wide 3 Try.f3 rfl rfl rfl rfl rfl rfl rfl ⟨rfl, rfl, rfl, rfl, rfl⟩ rfl rfl rfl rfl rfl (by kernel_rfl) Try.func3 (by kernel_rfl)
    (of_decide_eq_true (by kernel_rfl)) (by unfold Func.isWrapper; first | (rw [if_pos (by decide +kernel)]; kernel_rfl) | (rw [if_neg (by decide +kernel)]; exact ⟨rfl, rfl⟩))
    (fun os started H enc _ => lifted os started H enc)

/-- THE STATEMENT -/
theorem proved : Rows.FnStrInternsEachStringOnceInFirstSeenOrderSaid := over
#print axioms proved
end Go.Proofs.Qxb6619700a.fnStrInternsEachStringOnceInFirstSeenOrder
