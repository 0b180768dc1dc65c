/- The shared walks of the seat: isDigits, zzDigitByteCount, zzAllDigitBytes. -/
import Derived.Test.Qxb6619710aRows
import Derived.WalkKit
import Derived.WalkSpells
import Derived.WalkLawsBesides
import Derived.ProofKit
import Derived.Laws.RangeAny
namespace Go.Proofs.Qxb6619710a
open Go.RowKit

theorem ret_int {k : IntKind} {a b : Int} (h : a = b) : Ending.returned (.int k a) = .returned (.int k b) := by rw [h]
theorem ret_bool {a b : Bool} (h : a = b) : Ending.returned (.bool a) = .returned (.bool b) := by rw [h]

/-- is the byte an ASCII digit? -/
def isDig (b : UInt8) : Bool := decide (48 ≤ b.toNat) && decide (b.toNat ≤ 57)
/-- a text that is not empty and whose every byte is an ASCII digit -/
def allDig (l : List UInt8) : Bool := !l.isEmpty && l.all isDig

def dig (l : List UInt8) : Int := (l.filter isDig).length
theorem dig_le (l : List UInt8) : 0 ≤ dig l ∧ dig l ≤ l.length := by
  unfold dig; exact ⟨by omega, by have := List.length_filter_le isDig l; omega⟩
theorem take_snoc (s : ByteArray) (k : Nat) (h : k < s.size) : s.data.toList.take (k + 1) = s.data.toList.take k ++ [s[k]] := by
  rw [List.take_succ_eq_append_getElem (by simpa using h)]; rfl
theorem isDig_yes {c : UInt8} (h : 48 ≤ (c.toNat : Int)) (h2 : (c.toNat : Int) ≤ 57) : isDig c = true := by
  simp [isDig]; omega
theorem isDig_no {c : UInt8} (h : ¬ (48 ≤ (c.toNat : Int) ∧ (c.toNat : Int) ≤ 57)) : isDig c = false := by
  cases e : isDig c with
  | false => rfl
  | true => simp [isDig] at e; omega
theorem dig_snoc (l : List UInt8) (c : UInt8) : dig (l ++ [c]) = dig l + if 48 ≤ (c.toNat : Int) ∧ (c.toNat : Int) ≤ 57 then 1 else 0 := by
  unfold dig
  rw [List.filter_append]
  by_cases h : 48 ≤ (c.toNat : Int) ∧ (c.toNat : Int) ≤ 57
  · simp [isDig_yes h.1 h.2, h]
  · rw [if_neg h]; simp [isDig_no h]
theorem dig_all (l : List UInt8) : (dig l = l.length) ↔ l.all isDig = true := by
  unfold dig
  rw [List.all_eq_true, ← List.filter_eq_self]
  constructor
  · intro h
    have h' : (l.filter isDig).length = l.length := by omega
    exact (List.filter_sublist).eq_of_length h'
  · intro h; rw [h]

/-- the end of the digits' loop: the first k bytes are digits -/
theorem all_take_snoc (s : ByteArray) (k : Nat) (h : k < s.size) (ha : (s.data.toList.take k).all isDig = true) (hd : isDig s[k] = true) : (s.data.toList.take (k + 1)).all isDig = true := by
  rw [take_snoc s k h, List.all_append, ha]; simp [hd]
theorem allDig_no (s : ByteArray) (k : Nat) (h : k < s.size) (hd : isDig s[k] = false) : allDig s.data.toList = false := by
  unfold allDig
  have hm : s[k] ∈ s.data.toList := by
    have : s.data.toList[k]'(by simpa using h) = s[k] := rfl
    rw [← this]; exact List.getElem_mem _
  have : s.data.toList.all isDig = false := by
    rw [List.all_eq_false]; exact ⟨_, hm, by simp [hd]⟩
  simp [this]
theorem allDig_yes (s : ByteArray) (k : Nat) (h0 : s.size ≠ 0) (h : s.size ≤ k) (ha : (s.data.toList.take k).all isDig = true) : allDig s.data.toList = true := by
  rw [List.take_of_length_le (by simpa using h)] at ha
  unfold allDig
  rw [ha]
  have : s.data.toList.isEmpty = false := by
    cases e : s.data.toList with
    | nil => exfalso; apply h0; have := congrArg List.length e; simpa using this
    | cons a b => rfl
  simp [this]

set_option maxHeartbeats 400000 in
theorem count_any (s : ByteArray) (w : World) (hs : s.size ≤ maxLen) :
    Calls Try.prog 10 #[.string s] w fun e w' => e = .returned (.int .i64 (dig s.data.toList)) ∧ w' = w := by
  unfold maxLen at hs
  go_enter Try.func10, Try.ntmps10
  go_wp2
  go_loop [3, 4] (fun n i => ∃ k : Nat, k ≤ s.size ∧ i = .int .i64 k ∧ n = .int .i64 (dig (s.data.toList.take k))) (fun _ i => s.size - (intOf i).toNat)
  case atStart => exact ⟨0, Nat.zero_le _, rfl, rfl⟩
  case round =>
    obtain ⟨k, hk, rfl, rfl⟩ := hrel
    have hd := dig_le (s.data.toList.take k)
    have hl : (s.data.toList.take k).length ≤ k := List.length_take_le _ _
    by_cases hlt : k < s.size
    · have hsn := dig_snoc (s.data.toList.take k) s[k]
      have hts := take_snoc s k hlt
      have HS : Hid (dig (s.data.toList.take (k + 1)) = dig (s.data.toList.take k) + if 48 ≤ (s[k].toNat : Int) ∧ (s[k].toNat : Int) ≤ 57 then 1 else 0) := by rw [hts]; exact hsn
      clear hsn hts
      go_wp2
      all_goals
        go_round
        case rel => exact ⟨k + 1, by omega, by go_num, by rw [HS.out]; first | rw [if_pos ⟨‹_›, ‹_›⟩] | (rw [if_neg (by omega)]; go_num)⟩
        case measure => simp [intOf]; omega
    · go_wp2
      go_ret
      exact ⟨ret_int (by rw [List.take_of_length_le (by simp; omega)]), rfl⟩

theorem allDig_count (s : ByteArray) (h0 : 0 < s.size) : (dig s.data.toList == (s.size : Int)) = allDig s.data.toList := by
  have hA := dig_all s.data.toList
  have hl : s.data.toList.length = s.size := by simp
  have he : s.data.toList.isEmpty = false := by
    cases e : s.data.toList with
    | nil => rw [e] at hl; simp at hl; omega
    | cons a b => rfl
  rw [hl] at hA
  unfold allDig
  rw [he, Bool.eq_iff_iff]
  simp only [beq_iff_eq, Bool.not_false, Bool.true_and]
  exact hA
theorem allDig_empty (s : ByteArray) (h0 : ¬ 0 < s.size) : allDig s.data.toList = false := by
  have hl : s.data.toList.length = s.size := by simp
  have he : s.data.toList = [] := List.eq_nil_of_length_eq_zero (by omega)
  rw [he]; rfl

set_option maxHeartbeats 400000 in
theorem all_any (s : ByteArray) (w : World) (hs : s.size ≤ maxLen) :
    Calls Try.prog 7 #[.string s] w fun e w' => e = .returned (.bool (allDig s.data.toList)) ∧ w' = w := by
  have hc := fun w => count_any s w hs
  unfold maxLen at hs
  by_cases h0 : 0 < s.size
  · go_enter Try.func7, Try.ntmps7
    go_wp2_with (go_at_call 10; refine (hc _).mono ?_; rintro e w' ⟨rfl, rfl⟩)
    go_ret
    exact ⟨ret_bool (allDig_count s h0), rfl⟩
  · go_enter Try.func7, Try.ntmps7
    go_wp2
    go_ret
    exact ⟨ret_bool (allDig_empty s h0).symm, rfl⟩

theorem Grown.iter {W w' : World} (h : Grown W w') (s : ByteArray) (p : Nat) : Grown W (w'.iter s p) := by
  refine ⟨World.keptBut_trans h.1 (World.keptBut_alloc _ _ _), fun a => Eq.trans ?_ (h.2.1 a), Nat.le_trans h.2.2 (by show w'.heap.size ≤ (w'.heap.push _).size; simp)⟩
  by_cases hb : a.block = w'.heap.size
  · have e1 : (w'.iter s p).heap[a.block]? = some (.stringIter s p) := by rw [hb]; exact World.iter_heap _ _ _
    have e2 : w'.heap[a.block]? = none := by rw [hb]; simp
    simp [World.frozen?, e1, e2]
  · exact World.frozen?_alloc_old _ _ _ hb
theorem Grown.trans {a b c : World} (h : Grown a b) (k : Grown b c) : Grown a c :=
  ⟨World.keptBut_trans h.1 (World.keptBut_mono (fun _ f => f.elim) k.1), fun x => (k.2.1 x).trans (h.2.1 x), Nat.le_trans h.2.2 k.2.2⟩

theorem emp_of (s : ByteArray) (h : s.size = 0) : s.toList.isEmpty = true := by
  rw [ByteArray.toList_eq, List.isEmpty_iff]
  exact List.eq_nil_of_length_eq_zero (by simpa using h)
theorem nemp_of (s : ByteArray) (h : ¬ s.size = 0) : s.toList.isEmpty = false := by
  rw [ByteArray.toList_eq]
  cases e : s.data.toList with
  | nil => exfalso; apply h; have := congrArg List.length e; simpa using this
  | cons a b => rfl

set_option maxRecDepth 100000 in
theorem digits_any (s : ByteArray) (w : World) :
    Calls Try.prog 9 #[.string s] w fun e w' => e = .returned (.bool (allDig s.data.toList)) ∧ Grown w w' := by
  by_cases h0 : s.size = 0
  · have hemp : s.toList.isEmpty = true := emp_of s h0
    go_enter Try.func9, Try.ntmps9
    go_wp2
    go_ret
    exact ⟨ret_bool (allDig_empty s (by omega)).symm, Grown.refl _⟩
  · have hemp : s.toList.isEmpty = false := nemp_of s h0
    go_enter Try.func9, Try.ntmps9
    go_wp2
    go_loopw [4] (fun _ w' => ∃ pos, w' = w.iter s pos ∧ (s.data.toList.take pos).all isDig = true) (fun _ w' => s.size - w'.iterPos w.heap.size)
    case atStart => exact ⟨0, rfl, rfl⟩
    case round =>
      obtain ⟨pos, rfl, hall⟩ := hrel
      have HA : Hid ((s.data.toList.take pos).all isDig = true) := hall
      clear hall
      by_cases hp : pos < s.size
      · by_cases ha : (s[pos]'hp).toNat < 128
        · have hnx : ∀ ty, (Instr.next (.pointer (some ⟨w.heap.size, 0, none⟩)) true ty).run Try.prog (w.iter s pos) = _ := fun ty => run_next_ascii w s pos ty hp ha
          by_cases hd : 48 ≤ ((s[pos]'hp).toNat : Int) ∧ ((s[pos]'hp).toNat : Int) ≤ 57
          · obtain ⟨hd1, hd2⟩ := hd
            go_wp2
            go_roundw
            case rel => exact ⟨pos + 1, rfl, all_take_snoc s pos hp HA.out (isDig_yes hd1 hd2)⟩
            case measure => simp; omega
          · have hno := isDig_no hd
            go_wp2
            all_goals
              go_ret
              exact ⟨ret_bool (allDig_no s pos hp hno).symm, Grown.iter (Grown.refl _) _ _⟩
        · have hnx : ∀ ty, (Instr.next (.pointer (some ⟨w.heap.size, 0, none⟩)) true ty).run Try.prog (w.iter s pos) = _ := fun ty => run_next_any w s pos ty hp
          have hno : isDig s[pos] = false := isDig_no (by omega)
          have hi := (decode_high s pos hp (by omega)).1
          go_wp2
          all_goals
            go_ret
            exact ⟨ret_bool (allDig_no s pos hp hno).symm, Grown.iter (Grown.refl _) _ _⟩
      · have hnx : ∀ ty, (Instr.next (.pointer (some ⟨w.heap.size, 0, none⟩)) true ty).run Try.prog (w.iter s pos) = _ := fun ty => run_next_end w s pos ty hp
        go_wp2
        go_ret
        exact ⟨ret_bool (allDig_yes s pos h0 (by omega) HA.out).symm, Grown.iter (Grown.refl _) _ _⟩

/-- the plain function of a text: not empty, all bytes digits (not laid open by the walk) -/
def allD (s : ByteArray) : Bool := allDig s.data.toList

theorem allD_any (s : ByteArray) (w : World) (hs : s.size ≤ maxLen) :
    Calls Try.prog 7 #[.string s] w fun e w' => e = .returned (.bool (allD s)) ∧ w' = w := all_any s w hs

theorem zz_any (s : ByteArray) (w : World) :
    Calls Try.prog 6 #[.string s] w fun e w' => e = .returned (.bool (allD s)) ∧ Grown w w' := by
  go_enter Try.func6, Try.ntmps6
  go_wp2_with (go_at_call 9; refine (digits_any _ _).mono ?_; rintro e w' ⟨rfl, hg⟩)
  go_ret
  exact ⟨rfl, hg⟩

end Go.Proofs.Qxb6619710a
