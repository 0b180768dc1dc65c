/- FnIsDigitsInsertByte answers true at every input: the walk over the shared contracts, then the row's step as the shell lays it. -/
import Derived.Test.Qxb6619710aDig
import Derived.Deep.QuietTactic
import Derived.BigQuiet
import Derived.Lib.Strings
import Derived.WalkKit
import Derived.ProofKit
import Derived.OpenShut
import Derived.ShutString
namespace Go.Proofs.Qxb6619710a.fnIsDigitsInsertByte
open Go.ChangeShapes Go.WideShapes Go.ChangeAt Go.RowKit
open Go.ChangeMaps (open_string shut_string)
set_option linter.unusedVariables false      -- a walk need not use every 'w<i>' (that an integer argument fits its kind)

theorem own : ownKnob Try.prog.godebug = none := by kernel_rfl

/-! ### STEP 1: THE WALK: the Go text returns true. 'Grown w w'': the world has at most new blocks (Derived/RowKit3.lean). Part the cases AHEAD of 'go_enter' where a test parts the walk; take each callee by a contract of your own. -/
theorem bytes_any (s : ByteArray) (i c : Int) (hs : s.size ≤ maxLen) (w : World) :
    Calls Try.prog 8 #[.string s, .int .i64 i, .int .u8 c] w fun e w' => e = .returned (.bool (decide (s.size ≤ 1048576))) ∧ w' = w := by
  unfold maxLen at hs
  go_enter Try.func8, Try.ntmps8
  go_wp2
  all_goals
    go_ret
    exact ⟨ret_bool (by simp; omega), rfl⟩

theorem conv_one (b : UInt8) (W : World) (nq : Nat) :
    (convert 25 9 (.slice (some ⟨W.heap.size, 0, none⟩) 1 1)).run Try.prog ((W.alloc (.cells #[.int .u8 (b.toNat : Int)] 5)).drewN nq) = .ok (.string ⟨#[b]⟩) ((W.alloc (.cells #[.int .u8 (b.toNat : Int)] 5)).drewN nq) := by
  have h := run_convert_bytes_back (P := Try.prog) ((W.alloc (.cells #[.int .u8 (b.toNat : Int)] 5)).drewN nq) 25 9 5 ⟨W.heap.size, 0, none⟩ 1 [b] Try.underlying25 Try.underlying5 Try.underlying9
    (by
      intro j hj
      match j, hj with
      | 0, _ => simp [Addr.add])
  simpa using h

/-- the plain law: the text with the byte laid in holds exactly when the byte is a digit and the text is empty or holds -/
theorem ins_plain (s : ByteArray) (n : Nat) (b : UInt8) : allD (s.extract 0 n ++ ⟨#[b]⟩ ++ s.extract n s.size) = (isDig b && (s.toList.isEmpty || allD s)) := by
  unfold allD allDig
  have e0 : (s.extract 0 n).data.toList = s.data.toList.take n := by rw [Lib.extract_data]; simp
  have e1 : (s.extract n s.size).data.toList = s.data.toList.drop n := by
    rw [Lib.extract_data]
    exact List.take_of_length_le (by simp)
  have e : (s.extract 0 n ++ ⟨#[b]⟩ ++ s.extract n s.size).data.toList = s.data.toList.take n ++ [b] ++ s.data.toList.drop n := by
    rw [ByteArray.data_append, ByteArray.data_append, Array.toList_append, Array.toList_append, e0, e1]
  have ea : s.data.toList.all isDig = ((s.data.toList.take n).all isDig && (s.data.toList.drop n).all isDig) := by
    rw [← List.all_append, List.take_append_drop]
  rw [e, ByteArray.toList_eq, List.all_append, List.all_append, ea]
  have he : (s.data.toList.take n ++ [b] ++ s.data.toList.drop n).isEmpty = false := by simp
  rw [he]
  have h0 : s.data.toList.isEmpty = true → (s.data.toList.take n).all isDig = true ∧ (s.data.toList.drop n).all isDig = true := by
    intro h; rw [List.isEmpty_iff] at h; rw [h]; simp
  revert h0
  generalize s.data.toList.isEmpty = x
  generalize (s.data.toList.take n).all isDig = p
  generalize (s.data.toList.drop n).all isDig = q
  have hb : [b].all isDig = isDig b := by simp
  rw [hb]
  generalize isDig b = c
  cases x <;> cases p <;> cases q <;> cases c <;> simp

theorem grown_drewN {a b : World} (h : Grown a b) : ∀ n, Grown a (b.drewN n)
  | 0 => h
  | n + 1 => (grown_drewN h n).drew
theorem chain {w x y : World} {C : Array Value} {t : TypeId} {nq : Nat} (h1 : Grown ((w.alloc (.cells C t)).drewN nq) x) (h2 : Grown x y) : Grown w y :=
  Grown.trans (Grown.trans (show Grown w ((w.alloc (.cells C t)).drewN nq) from grown_drewN ((Grown.refl _).alloc _ _) nq) h1) h2

set_option maxHeartbeats 1000000 in
theorem core (s : ByteArray) (n : Nat) (b : UInt8) (h1 : s.size ≤ 1048576) (hn : n ≤ s.size) (w : World)
    (hb : ∀ w, Calls Try.prog 8 #[.string s, .int .i64 n, .int .u8 b.toNat] w fun e w' => e = .returned (.bool true) ∧ w' = w)
    (j jb x c : Bool) (hj : allD (s.extract 0 n ++ ⟨#[b]⟩ ++ s.extract n s.size) = j) (hjb : allD s = jb) (hx : s.toList.isEmpty = x) (hc : isDig b = c)
    (plain : j = (c && (x || jb))) :
    Calls Try.prog 4 #[.string s, .int .i64 n, .int .u8 b.toNat] w fun e w' => e = .returned (.bool true) ∧ Grown w w' := by
  have hA : ∀ w, Calls Try.prog 7 #[.string s] w fun e w' => e = .returned (.bool (allD s)) ∧ w' = w := fun w => allD_any _ w (by simp [maxLen]; omega)
  have hn2 : (0 : Int) ≤ (n : Int) := by omega
  have hn3 : (n : Int) ≤ (s.size : Int) := by omega
  have hcv := conv_one b
  have hcd : (c = true ∧ 48 ≤ (b.toNat : Int) ∧ (b.toNat : Int) ≤ 57) ∨ (c = false ∧ (b.toNat : Int) < 48) ∨ (c = false ∧ 48 ≤ (b.toNat : Int) ∧ 57 < (b.toNat : Int)) := by
    subst hc
    by_cases h : 48 ≤ (b.toNat : Int) ∧ (b.toNat : Int) ≤ 57
    · exact .inl ⟨isDig_yes h.1 h.2, h⟩
    · rw [isDig_no h]; simp; omega
  clear hc
  rcases hcd with ⟨rfl, hc1, hc2⟩ | ⟨rfl, hc1⟩ | ⟨rfl, hc1, hc2⟩ <;> cases x <;> cases jb <;> simp at plain <;> subst plain
  all_goals
    go_enter Try.func4, Try.ntmps4
    go_wp2_with (go_at_call 8; refine (hb _).mono ?_; rintro e w' ⟨rfl, rfl⟩)
    go_quiet (fail)
    go_wp2_with (first | (go_at_call 6; refine (zz_any _ _).mono ?_; rintro e w' ⟨rfl, hg⟩) | (go_at_call 7; refine (hA _).mono ?_; rintro e w' ⟨rfl, rfl⟩))
    go_ret
    refine ⟨rfl, ?_⟩
    exact chain (by assumption) hg

theorem walk (a0 : ByteArray) (a1 : Int) (a2 : Int) (w0 : a0.size ≤ maxLen) (w1 : (Lit.int .i64 a1).wf = true) (w2 : (Lit.int .u8 a2).wf = true) (w : World) :
    Calls Try.prog 4 #[.string a0, .int .i64 a1, .int .u8 a2] w fun e w' => e = .returned (.bool true) ∧ Grown w w' := by
  have hb := fun w => bytes_any a0 a1 a2 w0 w
  unfold maxLen at w0
  by_cases h1 : a0.size ≤ 1048576
  · have hd : decide (a0.size ≤ 1048576) = true := decide_eq_true h1
    rw [hd] at hb
    by_cases h2 : 0 ≤ a1
    · by_cases h3 : a1 ≤ a0.size
      · obtain ⟨n, rfl⟩ := Int.eq_ofNat_of_zero_le h2
        have hw := bounds_u8 w2
        obtain ⟨b, hbe⟩ : ∃ b : UInt8, a2 = (b.toNat : Int) := ⟨UInt8.ofNat a2.toNat, by simp; omega⟩
        subst hbe
        exact core a0 n b h1 (by omega) w hb _ _ _ _ rfl rfl rfl rfl (ins_plain a0 n b)
      · go_enter Try.func4, Try.ntmps4
        go_wp2_with (go_at_call 8; refine (hb _).mono ?_; rintro e w' ⟨rfl, rfl⟩)
        go_ret
        exact ⟨rfl, Grown.refl _⟩
    · go_enter Try.func4, Try.ntmps4
      go_wp2_with (go_at_call 8; refine (hb _).mono ?_; rintro e w' ⟨rfl, rfl⟩)
      go_ret
      exact ⟨rfl, Grown.refl _⟩
  · have hd : decide (a0.size ≤ 1048576) = false := decide_eq_false h1
    rw [hd] at hb
    go_enter Try.func4, Try.ntmps4
    go_wp2_with (go_at_call 8; refine (hb _).mono ?_; rintro e w' ⟨rfl, rfl⟩)
    go_ret
    exact ⟨rfl, Grown.refl _⟩

/-! ### THE ROW's STEP: WRITTEN OUT: LEAVE IT -/
set_option maxRecDepth 100000 in
theorem lifted (os : Os) (started : os.Started) (H : Type) (enc : TypeId × Value → H) :
    ReturnsInHanded {} Try.checked os 4 .any (Rows.fnIsDigitsInsertByteSpec.pre6 enc Try.prog Try.f4 Rows.fnIsDigitsInsertByteRow.domain false) (Rows.fnIsDigitsInsertByteSpec.post enc Try.prog Try.f4 false true false false) := by
  refine returnsInHanded_of_change (C := Try.checked) own started (by kernel_rfl) Try.func4
    (ChangeSpec.witness6 (enc := enc) (C := Try.checked) false ⟨#[], #[.string ByteArray.empty, .int .i64 0, .int .u8 0], []⟩ 8 (by kernel_rfl) (by kernel_rfl) (by kernel_rfl) (by kernel_rfl)) ?_
  intro W base args ds gs before hval0 hW hcnd _
  have hval : ∀ (j : Nat) t v, Try.f4.params[j]? = some t → args[j]? = some v → Value.okWide Try.prog W .any base t v := hval0
  have hW' := hW
  obtain ⟨p, q, hA0, hV, rfl, hfz, hnd⟩ := hW
  have hA : DataW.TrodAll enc Try.prog W 0 (fun _ => true) true Try.f4.params.toList args.toList ds p := hA0
  rw [Try.params4] at hA hval
  obtain ⟨v0, vs0, d0, ds0, p0, q0, hargs, rfl, rfl, h0, r0⟩ := trodAll_cons hA
  obtain ⟨v1, vs1, d1, ds1, p1, q1, rfl, rfl, rfl, h1, r1⟩ := trodAll_cons r0
  obtain ⟨v2, vs2, d2, ds2, p2, q2, rfl, rfl, rfl, h2, r2⟩ := trodAll_cons r1
  obtain ⟨rfl, rfl, rfl⟩ := trodAll_nil r2
  obtain rfl : args = #[v0, v1, v2] := by cases args; simp_all
  obtain ⟨rfl, rfl⟩ := trodVars_none hV
  obtain ⟨a0, rfl, rfl, rfl, w0⟩ := open_string Try.underlying9 (hval 0 9 v0 rfl rfl) h0
  obtain ⟨a1, rfl, rfl, rfl, w1⟩ := open_int Try.underlying3 (hval 1 3 v1 rfl rfl) h1
  obtain ⟨a2, rfl, rfl, rfl, w2⟩ := open_int Try.underlying5 (hval 2 5 v2 rfl rfl) h2
  clear hA0 hval0
  simp only [List.append_nil] at hW'
  refine (walk a0 a1 a2 w0 w1 w2 W).mono fun e W' ⟨he, hg⟩ => ?_
  subst he
  exact ⟨_, rfl, post_of_same (pa := []) (pv := []) hW' (fun _ _ _ => (trodAll_cons_mk (shut_bool Try.underlying4 _) trodAll_mk0)) (fun sp _ => (trodAll_cons_mk (shut_string Try.underlying9 w0) (trodAll_cons_mk (shut_int Try.underlying3 w1) (trodAll_cons_mk (shut_int Try.underlying5 w2) trodAll_mk0)))) (fun _ _ => rfl) rfl
    (hg.frame _) hg.2.1 (ok_one (by kernel_rfl) rfl (okWide_bool_mk Try.underlying4 _))⟩

theorem over : Rows.fnIsDigitsInsertByteRow.holds Try.pinned (OpenSpec.ofChange Rows.fnIsDigitsInsertByteSpec) :=
  OpenClaim.holds_of_wide 4 Try.f4 rfl rfl rfl rfl rfl rfl rfl ⟨rfl, rfl, rfl, rfl, rfl⟩ rfl rfl rfl rfl rfl (by kernel_rfl) Try.func4 (by kernel_rfl)
    (of_decide_eq_true (by kernel_rfl)) (by unfold Func.isWrapper; first | (rw [if_pos (by decide +kernel)]; kernel_rfl) | (rw [if_neg (by decide +kernel)]; exact ⟨rfl, rfl⟩))
    (fun os started H enc _ => lifted os started H enc)

/-- ████ THE STATEMENT ████ -/
theorem proved : Rows.FnIsDigitsInsertByteSaid :=
  over
#print axioms proved
end Go.Proofs.Qxb6619710a.fnIsDigitsInsertByte
