/- FnFieldsAppendedInAnyOrderReadBackInOrder, first part: slices that are only read; the bound zzBytes. -/
import Derived.Test.Qxb6619700aCln
namespace Go.Proofs.Qxb6619700a
open Go.RowKit

/-- A SLICE THAT IS ONLY READ: its elements are the cells xs, below the size of the heap w. -/
def Row (w : World) (ao : Option Addr) (n : Nat) (xs : List Value) : Prop :=
  xs.length = n ∧ ∀ k (hk : k < xs.length), ∃ b off, ao = some ⟨b, off, none⟩ ∧ b < w.heap.size ∧ w.cell? ⟨b, off + k, none⟩ = some xs[k]

theorem Row.at {w : World} {ao : Option Addr} {n : Nat} {xs : List Value} (h : Row w ao n xs) (T : TypeId) (hT : Try.prog.underlying T = some (.slice (Try.prog.elem T))) (hS : ∀ W, (sizeOf (Try.prog.elem T)).run Try.prog W = .ok 1 W) {k : Nat} (hk : k < n) :
    ∃ p : Addr, (∀ c W, (Instr.indexAt T (.slice ao n c) (.int .i64 (k : Int))).run Try.prog W = .ok (.pointer (some p)) W) ∧ ∀ W, Below w.heap.size w W → W.cell? p = some (xs[k]'(by rw [h.1]; exact hk)) := by
  obtain ⟨b, off, hao, hb, hc⟩ := h.2 k (by rw [h.1]; exact hk)
  subst hao
  refine ⟨⟨b, off + k, none⟩, fun c W => ?_, fun W hW => (hW.cell (p := ⟨b, off + k, none⟩) hb).trans hc⟩
  have h1 : (0 : Int) ≤ (k : Int) := by omega
  have h2 : (k : Int) < (n : Int) := by omega
  rw [run_indexAt_slice _ _ _ _ _ _ _ hT]
  rw [if_pos ⟨h1, h2⟩, hS]
  simp [Result.andThen, Addr.add]

theorem t38 : Try.prog.underlying 38 = some (.slice (Try.prog.elem 38)) := by kernel_rfl
theorem t39 : Try.prog.underlying 39 = some (.slice (Try.prog.elem 39)) := by kernel_rfl
theorem t40 : Try.prog.underlying 40 = some (.slice (Try.prog.elem 40)) := by kernel_rfl
theorem t22 : Try.prog.underlying 22 = some (.slice (Try.prog.elem 22)) := by kernel_rfl
theorem s38 (W : World) : (sizeOf (Try.prog.elem 38)).run Try.prog W = .ok 1 W := by kernel_rfl
theorem s39 (W : World) : (sizeOf (Try.prog.elem 39)).run Try.prog W = .ok 1 W := by kernel_rfl
theorem s40 (W : World) : (sizeOf (Try.prog.elem 40)).run Try.prog W = .ok 1 W := by kernel_rfl
theorem s22 (W : World) : (sizeOf (Try.prog.elem 22)).run Try.prog W = .ok 1 W := by kernel_rfl

/-- the strings as cells -/
def strVals (ds : List ByteArray) : List Value := ds.map Value.string

/-- some bool came back, and the world is as it was; where it is true no string is longer than the bound -/
def AnyBool (w : World) (n : Nat) (ds : List ByteArray) (e : Ending) (w' : World) : Prop := ∃ b, e = .returned (.bool b) ∧ w = w' ∧ (b = true → ∀ j, j < n → (ds.getD j ByteArray.empty).size ≤ 1048576)

set_option maxRecDepth 100000 in
set_option maxHeartbeats 2000000 in
/-- the bound: it answers, and leaves all as it was -/
theorem bytes16 (a0 a1 a2 a3 : Option Addr) (n0 n1 n2 n3 c0 c1 c2 c3 : Nat) (ds : List ByteArray) (w : World) (h0 : n0 ≤ 9223372036854775807) (h1 : n1 ≤ 9223372036854775807) (h2 : n2 ≤ 9223372036854775807) (h3 : n3 ≤ 9223372036854775807) (hd : Row w a3 n3 (strVals ds)) :
    Calls Try.prog 16 #[.slice a0 n0 c0, .slice a1 n1 c1, .slice a2 n2 c2, .slice a3 n3 c3] w (AnyBool w n3 ds) := by
  go_enter Try.func16, Try.ntmps16
  go_wp2
  iterate 7 (go_ret; exact ⟨_, rfl, rfl, fun h => by cases h⟩)
  go_loop [9, 10] (fun z i => ∃ k : Nat, k ≤ n3 ∧ i = .int .i64 k ∧ (∃ y : Int, z = .int .i64 y) ∧ ∀ j, j < k → (ds.getD j ByteArray.empty).size ≤ 1048576) (fun _ i => n3 - (intOf i).toNat)
  case atStart => exact ⟨0, by omega, rfl, ⟨_, rfl⟩, fun j hj => by omega⟩
  case round =>
    obtain ⟨k, hk, rfl, ⟨y, rfl⟩, hsz⟩ := hrel
    have HZ : Hid (∀ j, j < k → (ds.getD j ByteArray.empty).size ≤ 1048576) := hsz
    clear hsz
    by_cases hlt : k < n3
    · obtain ⟨p, hp, hc⟩ := hd.at 22 t22 s22 hlt
      have hcw := hc w (Below.refl _ _)
      have hkl : k < ds.length := by have := hd.1; simp [strVals] at this; omega
      have he : (strVals ds)[k]'(by rw [hd.1]; exact hlt) = .string (ds.getD k ByteArray.empty) := by simp [strVals, List.getD, hkl]
      rw [he] at hcw
      obtain ⟨s, hs⟩ : ∃ s, s = ds.getD k ByteArray.empty := ⟨_, rfl⟩
      rw [← hs] at hcw
      have HS : Hid (s = ds.getD k ByteArray.empty) := hs
      clear hc he hd hs
      go_wp2
      · go_ret; exact ⟨_, rfl, rfl, fun h => by cases h⟩
      · go_ret; exact ⟨_, rfl, rfl, fun h => by cases h⟩
      · rename (s.size : Int) ≤ 1048576 => hle
        refine ⟨⟨k + 1, by omega, by go_num, ⟨_, rfl⟩, fun j hj => ?_⟩, by simp [intOf]; omega⟩
        rcases Nat.lt_or_ge j k with h | h
        · exact HZ.out j h
        · rw [show j = k by omega, ← HS.out]; omega
    · go_wp2
      go_ret
      exact ⟨_, rfl, rfl, fun _ j hj => HZ.out j (by omega)⟩

#print axioms bytes16
end Go.Proofs.Qxb6619700a
