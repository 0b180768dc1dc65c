/- FnIsDigitsJoin answers true at every two strings: the walk over the shared contracts, then the row's step as the shell lays it. -/
import Derived.Test.Qxb6619710aDig
import Derived.WalkKit
import Derived.ProofKit
import Derived.OpenShut
import Derived.ShutString
namespace Go.Proofs.Qxb6619710a.fnIsDigitsJoin
open Go.ChangeShapes Go.WideShapes Go.ChangeAt Go.RowKit
open Go.ChangeMaps (open_string shut_string)
set_option linter.unusedVariables false      -- a walk need not use every 'w<i>' (that an integer argument fits its kind)

theorem own : ownKnob Try.prog.godebug = none := by kernel_rfl

/-! ### STEP 1: THE WALK: the Go text returns true. 'Grown w w'': the world has at most new blocks (Derived/RowKit3.lean). Part the cases AHEAD of 'go_enter' where a test parts the walk; take each callee by a contract of your own. -/
theorem bytes_any (a b : ByteArray) (ha : a.size ≤ maxLen) (hb : b.size ≤ maxLen) (w : World) :
    Calls Try.prog 5 #[.string a, .string b] w fun e w' => e = .returned (.bool (decide (a.size + b.size ≤ 1048576))) ∧ w' = w := by
  unfold maxLen at ha hb
  go_enter Try.func5, Try.ntmps5
  go_wp2
  all_goals
    go_ret
    exact ⟨ret_bool (by simp; omega), rfl⟩

/-- the plain law: the joined text holds exactly when it is not empty and each part that is not empty holds -/
theorem join_plain (a b : ByteArray) : allD (a ++ b) = ((!a.toList.isEmpty || !b.toList.isEmpty) && (a.toList.isEmpty || allD a) && (b.toList.isEmpty || allD b)) := by
  unfold allD allDig
  have e : (a ++ b).data.toList = a.data.toList ++ b.data.toList := by simp
  rw [e, ByteArray.toList_eq, ByteArray.toList_eq, List.all_append]
  generalize a.data.toList = l
  generalize b.data.toList = r
  cases l <;> cases r <;> simp

set_option maxHeartbeats 1000000 in
theorem core (a0 a1 : ByteArray) (h1 : a0.size + a1.size ≤ 1048576) (h2 : a0.size ≤ 524288) (h3 : a1.size ≤ 524288) (w : World)
    (hb : ∀ w, Calls Try.prog 5 #[.string a0, .string a1] w fun e w' => e = .returned (.bool true) ∧ w' = w)
    (j ja jb x y : Bool) (hj : allD (a0 ++ a1) = j) (hja : allD a0 = ja) (hjb : allD a1 = jb) (hx : a0.toList.isEmpty = x) (hy : a1.toList.isEmpty = y)
    (plain : j = ((!x || !y) && (x || ja) && (y || jb))) :
    Calls Try.prog 3 #[.string a0, .string a1] w fun e w' => e = .returned (.bool true) ∧ Grown w w' := by
  have hA : ∀ w, Calls Try.prog 7 #[.string (a0 ++ a1)] w fun e w' => e = .returned (.bool (allD (a0 ++ a1))) ∧ w' = w := fun w => allD_any _ w (by simp [maxLen]; omega)
  cases x <;> cases y <;> cases ja <;> cases jb <;> simp at plain <;> subst plain
  all_goals
    go_enter Try.func3, Try.ntmps3
    go_wp2_with (first | (go_at_call 5; refine (hb _).mono ?_; rintro e w' ⟨rfl, rfl⟩) | (go_at_call 6; refine (zz_any _ _).mono ?_; rintro e w' ⟨rfl, hg⟩) | (go_at_call 7; refine (hA _).mono ?_; rintro e w' ⟨rfl, rfl⟩))
    go_ret
    refine ⟨rfl, ?_⟩
    exact Grown.trans (Grown.trans ‹_› ‹_›) ‹_›

theorem walk (a0 : ByteArray) (a1 : ByteArray) (w0 : a0.size ≤ maxLen) (w1 : a1.size ≤ maxLen) (w : World) :
    Calls Try.prog 3 #[.string a0, .string a1] w fun e w' => e = .returned (.bool true) ∧ Grown w w' := by
  have hb := fun w => bytes_any a0 a1 w0 w1 w
  unfold maxLen at w0 w1
  by_cases h1 : a0.size + a1.size ≤ 1048576
  · have hd : decide (a0.size + a1.size ≤ 1048576) = true := decide_eq_true h1
    rw [hd] at hb
    by_cases h2 : a0.size ≤ 524288
    · by_cases h3 : a1.size ≤ 524288
      · exact core a0 a1 h1 h2 h3 w hb _ _ _ _ _ rfl rfl rfl rfl rfl (join_plain a0 a1)
      · go_enter Try.func3, Try.ntmps3
        go_wp2_with (go_at_call 5; refine (hb _).mono ?_; rintro e w' ⟨rfl, rfl⟩)
        go_ret
        exact ⟨rfl, Grown.refl _⟩
    · go_enter Try.func3, Try.ntmps3
      go_wp2_with (go_at_call 5; refine (hb _).mono ?_; rintro e w' ⟨rfl, rfl⟩)
      go_ret
      exact ⟨rfl, Grown.refl _⟩
  · have hd : decide (a0.size + a1.size ≤ 1048576) = false := decide_eq_false h1
    rw [hd] at hb
    go_enter Try.func3, Try.ntmps3
    go_wp2_with (go_at_call 5; refine (hb _).mono ?_; rintro e w' ⟨rfl, rfl⟩)
    go_ret
    exact ⟨rfl, Grown.refl _⟩

/-! ### THE ROW's STEP: WRITTEN OUT: LEAVE IT -/
set_option maxRecDepth 100000 in
theorem lifted (os : Os) (started : os.Started) (H : Type) (enc : TypeId × Value → H) :
    ReturnsInHanded {} Try.checked os 3 .any (Rows.fnIsDigitsJoinSpec.pre6 enc Try.prog Try.f3 Rows.fnIsDigitsJoinRow.domain false) (Rows.fnIsDigitsJoinSpec.post enc Try.prog Try.f3 false true false false) := by
  refine returnsInHanded_of_change (C := Try.checked) own started (by kernel_rfl) Try.func3
    (ChangeSpec.witness6 (enc := enc) (C := Try.checked) false ⟨#[], #[.string ByteArray.empty, .string ByteArray.empty], []⟩ 8 (by kernel_rfl) (by kernel_rfl) (by kernel_rfl) (by kernel_rfl)) ?_
  intro W base args ds gs before hval0 hW hcnd _
  have hval : ∀ (j : Nat) t v, Try.f3.params[j]? = some t → args[j]? = some v → Value.okWide Try.prog W .any base t v := hval0
  have hW' := hW
  obtain ⟨p, q, hA0, hV, rfl, hfz, hnd⟩ := hW
  have hA : DataW.TrodAll enc Try.prog W 0 (fun _ => true) true Try.f3.params.toList args.toList ds p := hA0
  rw [Try.params3] at hA hval
  obtain ⟨v0, vs0, d0, ds0, p0, q0, hargs, rfl, rfl, h0, r0⟩ := trodAll_cons hA
  obtain ⟨v1, vs1, d1, ds1, p1, q1, rfl, rfl, rfl, h1, r1⟩ := trodAll_cons r0
  obtain ⟨rfl, rfl, rfl⟩ := trodAll_nil r1
  obtain rfl : args = #[v0, v1] := by cases args; simp_all
  obtain ⟨rfl, rfl⟩ := trodVars_none hV
  obtain ⟨a0, rfl, rfl, rfl, w0⟩ := open_string Try.underlying9 (hval 0 9 v0 rfl rfl) h0
  obtain ⟨a1, rfl, rfl, rfl, w1⟩ := open_string Try.underlying9 (hval 1 9 v1 rfl rfl) h1
  clear hA0 hval0
  simp only [List.append_nil] at hW'
  refine (walk a0 a1 w0 w1 W).mono fun e W' ⟨he, hg⟩ => ?_
  subst he
  exact ⟨_, rfl, post_of_same (pa := []) (pv := []) hW' (fun _ _ _ => (trodAll_cons_mk (shut_bool Try.underlying4 _) trodAll_mk0)) (fun sp _ => (trodAll_cons_mk (shut_string Try.underlying9 w0) (trodAll_cons_mk (shut_string Try.underlying9 w1) trodAll_mk0))) (fun _ _ => rfl) rfl
    (hg.frame _) hg.2.1 (ok_one (by kernel_rfl) rfl (okWide_bool_mk Try.underlying4 _))⟩

theorem over : Rows.fnIsDigitsJoinRow.holds Try.pinned (OpenSpec.ofChange Rows.fnIsDigitsJoinSpec) :=
  OpenClaim.holds_of_wide 3 Try.f3 rfl rfl rfl rfl rfl rfl rfl ⟨rfl, rfl, rfl, rfl, rfl⟩ rfl rfl rfl rfl rfl (by kernel_rfl) Try.func3 (by kernel_rfl)
    (of_decide_eq_true (by kernel_rfl)) (by unfold Func.isWrapper; first | (rw [if_pos (by decide +kernel)]; kernel_rfl) | (rw [if_neg (by decide +kernel)]; exact ⟨rfl, rfl⟩))
    (fun os started H enc _ => lifted os started H enc)

/-- ████ THE STATEMENT ████ -/
theorem proved : Rows.FnIsDigitsJoinSaid :=
  over
#print axioms proved
end Go.Proofs.Qxb6619710a.fnIsDigitsJoin
