/- The shared contracts of the seat, fourth part: what it means to read bytes through a slice; zzClone; zzEqual. -/
import Derived.Test.Qxb6619700aApp
import Derived.Deep.OwnRows
import Derived.Deep.QuietTactic
import Derived.BigQuiet
namespace Go.Proofs.Qxb6619700a
open Go.RowKit

/-- THE SLICE v READS AS THE BYTES l: it has no elements; or its cells hold them. -/
def Reads (w : World) (v : Value) (l : List UInt8) : Prop :=
  (l = [] ∧ ∃ ao cap, v = .slice ao 0 cap) ∨
  (0 < l.length ∧ ∃ b off cap, v = .slice (some ⟨b, off, none⟩) l.length cap ∧ ∀ j (hj : j < l.length), w.cell? ⟨b, off + j, none⟩ = some (.int .u8 (l[j]).toNat))

theorem bytes_getElem? (l : List UInt8) (j : Nat) (hj : j < l.length) : (Lib.byteCells l)[j]? = some (.int .u8 (l[j]).toNat) := by
  simp [Lib.byteCells, hj]
theorem Reads.of_owns {w : World} {B n : Nat} {v : Value} {l : List UInt8} (h : w.ownsRow B 5 1 v n (Lib.byteCells l)) : Reads w v l := by
  have hn : l.length = n := by have := h.1; rw [Lib.byteCells_length] at this; omega
  rcases h.2 with ⟨rfl, h0⟩ | ⟨g, cap, cur, rfl, _, _, _⟩
  · exact .inl ⟨List.eq_nil_of_length_eq_zero (by omega), _, _, rfl⟩
  · rcases Nat.eq_zero_or_pos l.length with h0 | h0
    · exact .inl ⟨List.eq_nil_of_length_eq_zero h0, some ⟨g, 0, none⟩, cap, by rw [← hn, h0]⟩
    · refine .inr ⟨h0, g, 0, cap, by rw [hn], fun j hj => ?_⟩
      have := h.cellAt j (by omega)
      rw [Nat.zero_add, this, bytes_getElem? l j hj]
theorem Reads.drewN {w : World} {v : Value} {l : List UInt8} (h : Reads w v l) (n : Nat) : Reads (w.drewN n) v l := h
/-- what lies behind the first k bytes of an owned row -/
theorem Reads.shape {w : World} {v : Value} {l : List UInt8} (h : Reads w v l) : ∃ ao cap, v = .slice ao l.length cap := by
  rcases h with ⟨rfl, ao, cap, rfl⟩ | ⟨_, b, off, cap, rfl, _⟩
  · exact ⟨ao, cap, rfl⟩
  · exact ⟨_, cap, rfl⟩

theorem eql_nil (w : World) (a : Option Addr) (n c : Nat) : (binOp .eql 29 (.slice a n c) (.slice none 0 0)).run Try.prog w = .ok (.bool a.isNone) w :=
  Lib.run_eql_slice_nil w 29 5 a n c 0 0 Try.underlying29

theorem set_fill (l : List UInt8) (n k : Nat) (hk : k < l.length) (hl : l.length = n) :
    (Lib.byteCells (l.take k) ++ List.replicate (n - k) (Value.int .u8 0)).set k (.int .u8 (l[k]).toNat) = Lib.byteCells (l.take (k + 1)) ++ List.replicate (n - (k + 1)) (Value.int .u8 0) := by
  have hlen : (Lib.byteCells (l.take k)).length = k := by rw [Lib.byteCells_length, List.length_take]; omega
  rw [List.set_append_right _ _ (by omega), hlen, Nat.sub_self, show n - k = (n - (k + 1)) + 1 by omega, List.replicate_succ, List.set_cons_zero,
    List.take_succ_eq_append_getElem hk, Lib.byteCells_append, List.append_assoc]
  rfl

set_option maxRecDepth 100000 in
set_option maxHeartbeats 1000000 in
/-- zzClone of a slice that has elements -/
theorem clone_some (b off cap n : Nat) (l : List UInt8) (w : World) (hl : l.length = n) (hn : n ≤ 1048576) (h0 : 0 < n)
    (hc : ∀ j (hj : j < l.length), w.cell? ⟨b, off + j, none⟩ = some (.int .u8 (l[j]).toNat)) :
    Calls Try.prog 13 #[.slice (some ⟨b, off, none⟩) n cap] w fun e w' => e = .returned (.slice (some ⟨w.heap.size, 0, none⟩) n n) ∧ w'.ownsRow w.heap.size 5 1 (.slice (some ⟨w.heap.size, 0, none⟩) n n) n (Lib.byteCells l) ∧ w.grownBy w' none := by
  have hnil := fun w a n c => eql_nil w a n c
  have hmk := fun (W : World) => run_make_row' (P := Try.prog) 29 5 (.int .u8 0) 1 Try.underlying29 info5 rfl .i64 .i64 n (by omega) (by omega) W
  have hblt : b < w.heap.size := World.block_lt_of_cell? w _ (hc 0 (by omega))
  go_enter Try.func13, Try.ntmps13
  go_wp2
  go_loopw [4] (fun i wr => ∃ k : Nat, k ≤ n ∧ i = .int .i64 k ∧ wr.ownsRow w.heap.size 5 1 (.slice (some ⟨w.heap.size, 0, none⟩) n n) n (Lib.byteCells (l.take k) ++ List.replicate (n - k) (.int .u8 0)) ∧ w.grownBy wr none)
    (fun i _ => n - (intOf i).toNat)
  case atStart =>
    refine ⟨0, by omega, rfl, ?_, grownBy_alloc _ _ _⟩
    have h := World.ownsRow_lit (base := w.heap.size) (e := 5) (size := 1) w (madeCells #[.int .u8 0] n) n (Nat.le_refl _) (by unfold maxLen; omega) (by rw [← Array.length_toList, toList_madeCells_one]; simp)
    rw [toList_madeCells_one] at h
    simpa [Lib.byteCells] using h
  case round =>
    obtain ⟨k, hk, rfl, hown, hgr⟩ := hrel
    by_cases hlt : k < n
    · have hck : wr.cell? ⟨b, off + k, none⟩ = some (.int .u8 (l[k]'(by omega)).toNat) := hgr.cell (hc k (by omega)) (by simp)
      have hgk : wr.cell? ⟨w.heap.size, k, none⟩ = some (.int .u8 0) := by
        rw [hown.cellAt k (by omega), List.getElem?_append_right (by rw [Lib.byteCells_length, List.length_take]; omega)]
        rw [Lib.byteCells_length, List.length_take, Nat.min_eq_left (by omega), Nat.sub_self, show n - k = (n - (k + 1)) + 1 by omega, List.replicate_succ]
        rfl
      have hfk : wr.frozen? ⟨w.heap.size, k, none⟩ = false := hown.frozenAt k
      have hst := hown.stored k (.int .u8 (l[k]'(by omega)).toNat)
      rw [set_fill l n k (by omega) hl] at hst
      generalize l[k]'(by omega) = u at hck hst
      obtain ⟨hst1, hst2⟩ := hst
      have hgr2 : w.grownBy (wr.setCell ⟨w.heap.size, k, none⟩ (.int .u8 u.toNat)) none := grownBy_trans hgr hst2 (fun g hg => by simp at hg; right; omega)
      clear hst2 hgr hown hc
      go_wp2
      exact ⟨⟨k + 1, by omega, by go_num, hst1, hgr2⟩, by simp [intOf]; omega⟩
    · have hkn : k = n := by omega
      subst hkn
      rw [Nat.sub_self, List.take_of_length_le (by omega)] at hown
      simp only [List.replicate_zero, List.append_nil] at hown
      go_wp2
      go_ret
      exact ⟨rfl, hown, hgr⟩

set_option maxRecDepth 100000 in
/-- zzClone of an empty slice that is not nil -/
theorem clone_empty (x : Addr) (cap : Nat) (w : World) :
    Calls Try.prog 13 #[.slice (some x) 0 cap] w fun e w' => e = .returned (.slice (some ⟨w.heap.size, 0, none⟩) 0 0) ∧ w'.ownsRow w.heap.size 5 1 (.slice (some ⟨w.heap.size, 0, none⟩) 0 0) 0 [] ∧ w.grownBy w' none := by
  have hnil := fun w a n c => eql_nil w a n c
  have hmk := fun (W : World) => run_make_row' (P := Try.prog) 29 5 (.int .u8 0) 1 Try.underlying29 info5 rfl .i64 .i64 0 (by omega) (by omega) W
  simp only [Int.ofNat_zero] at hmk
  go_enter Try.func13, Try.ntmps13
  go_wp2
  go_loopw [4] (fun i wr => i = .int .i64 0 ∧ wr.ownsRow w.heap.size 5 1 (.slice (some ⟨w.heap.size, 0, none⟩) 0 0) 0 [] ∧ w.grownBy wr none)
    (fun _ _ => 0)
  case atStart =>
    refine ⟨rfl, ?_, grownBy_alloc _ _ _⟩
    have h := World.ownsRow_lit (base := w.heap.size) (e := 5) (size := 1) w (madeCells #[.int .u8 0] 0) 0 (Nat.le_refl _) (by unfold maxLen; omega) (by rw [← Array.length_toList, toList_madeCells_one]; simp)
    rw [toList_madeCells_one] at h
    exact h
  case round =>
    obtain ⟨rfl, hown, hgr⟩ := hrel
    go_wp2
    go_ret
    exact ⟨rfl, hown, hgr⟩

theorem clone_nil (w : World) (n c : Nat) : Calls Try.prog 13 #[.slice none n c] w fun e w' => e = .returned (.slice none 0 0) ∧ w' = w := by
  have hnil := fun w a n c => eql_nil w a n c
  go_enter Try.func13, Try.ntmps13
  go_wp2
  go_ret
  exact ⟨rfl, rfl⟩

/-- zzClone: a new slice with the same bytes (nil of nil); nothing that was there turns -/
theorem clone (v : Value) (l : List UInt8) (w : World) (hR : Reads w v l) (hn : l.length ≤ 1048576) :
    Calls Try.prog 13 #[v] w fun e w' => ∃ ao, e = .returned (.slice ao l.length l.length) ∧ w'.ownsRow w.heap.size 5 1 (.slice ao l.length l.length) l.length (Lib.byteCells l) ∧ w.grownBy w' none := by
  rcases hR with ⟨rfl, ao, cap, rfl⟩ | ⟨h0, b, off, cap, rfl, hc⟩
  · cases ao with
    | none => exact (clone_nil w 0 cap).mono fun e w' ⟨he, hw⟩ => ⟨none, he, hw ▸ World.ownsRow_nil _ _ _ _, hw ▸ grownBy_refl _ _⟩
    | some x => exact (clone_empty x cap w).mono fun e w' ⟨he, ho, hg⟩ => ⟨_, he, ho, hg⟩
  · exact (clone_some b off cap l.length l w rfl hn h0 hc).mono fun e w' ⟨he, ho, hg⟩ => ⟨_, he, ho, hg⟩

set_option maxRecDepth 100000 in
set_option maxHeartbeats 1000000 in
/-- zzEqual of two slices that read as the same bytes -/
theorem equal_some (b off cap b' off' cap' n : Nat) (l : List UInt8) (w : World) (hl : l.length = n) (hn : n ≤ 1048576)
    (hc : ∀ j (hj : j < l.length), w.cell? ⟨b, off + j, none⟩ = some (.int .u8 (l[j]).toNat)) (hc' : ∀ j (hj : j < l.length), w.cell? ⟨b', off' + j, none⟩ = some (.int .u8 (l[j]).toNat)) :
    Calls Try.prog 15 #[.slice (some ⟨b, off, none⟩) n cap, .slice (some ⟨b', off', none⟩) n cap'] w fun e w' => e = .returned (.bool true) ∧ ∃ m, w' = w.drewN m := by
  go_enter Try.func15, Try.ntmps15
  go_wp2
  go_loopw [5] (fun i wr => ∃ k : Nat, k ≤ n ∧ i = .int .i64 k ∧ ∃ m, wr = w.drewN m) (fun i _ => n - (intOf i).toNat)
  case atStart => exact ⟨0, by omega, rfl, 0, rfl⟩
  case round =>
    obtain ⟨k, hk, rfl, m, rfl⟩ := hrel
    by_cases hlt : k < n
    · have hck := hc k (by omega)
      have hck' := hc' k (by omega)
      generalize l[k]'(by omega) = u at hck hck'
      have hi1 : (0 : Int) ≤ (k : Int) := by omega
      have hi2 : (k : Int) < (n : Int) := by omega
      clear hc hc'
      go_wp2
      go_quiet (fail)
      go_wp2
      exact ⟨⟨k + 1, by omega, by go_num, _, rfl⟩, by simp [intOf]; omega⟩
    · go_wp2
      go_ret
      exact ⟨rfl, m, rfl⟩

set_option maxRecDepth 100000 in
theorem equal_empty (a a' : Option Addr) (cap cap' : Nat) (w : World) :
    Calls Try.prog 15 #[.slice a 0 cap, .slice a' 0 cap'] w fun e w' => e = .returned (.bool true) ∧ ∃ m, w' = w.drewN m := by
  go_enter Try.func15, Try.ntmps15
  go_wp2
  go_loop [5] (fun i => i = .int .i64 0) (fun _ => 0)
  case atStart => rfl
  case round =>
    subst hrel
    go_wp2
    go_ret
    exact ⟨rfl, 0, rfl⟩

theorem equal (v v' : Value) (l : List UInt8) (w : World) (h : Reads w v l) (h' : Reads w v' l) (hn : l.length ≤ 1048576) :
    Calls Try.prog 15 #[v, v'] w fun e w' => e = .returned (.bool true) ∧ ∃ m, w' = w.drewN m := by
  rcases h with ⟨rfl, ao, cap, rfl⟩ | ⟨h0, b, off, cap, rfl, hc⟩
  · rcases h' with ⟨_, ao', cap', rfl⟩ | ⟨h0', _⟩
    · exact equal_empty ao ao' cap cap' w
    · simp at h0'
  · rcases h' with ⟨rfl, ao', cap', rfl⟩ | ⟨_, b', off', cap', rfl, hc'⟩
    · simp at h0
    · exact equal_some b off cap b' off' cap' l.length l w rfl hn hc hc'

#print axioms clone
#print axioms equal
end Go.Proofs.Qxb6619700a
