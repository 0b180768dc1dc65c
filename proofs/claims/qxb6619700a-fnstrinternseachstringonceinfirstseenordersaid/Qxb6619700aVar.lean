/- The shared contracts of the seat, first part: encoding/binary.AppendUvarint onto a slice of the call's own, with the exact frame. -/
import Derived.Test.Qxb6619700aRows
import Derived.WalkKit
import Derived.WalkSpells
import Derived.WalkLawsBesides
import Derived.ProofKit
import Derived.OwnWalk
import Derived.Lib.VarintMem
import Derived.Lib.VarintBits
import Derived.Maps.AppendAt
namespace Go.Proofs.Qxb6619700a
open Go.RowKit

theorem info5 : (Try.prog.info? 5).map (fun i => (i.zero, i.size, i.bytes)) = some (some (.int .u8 0), 1, 1) := by kernel_rfl

/-- THE FRAME OF AN APPEND: v became v'; of what was there at most v's own row has turned; v' lies in v's row or in a new one. -/
structure Gr (w w' : World) (v v' : Value) : Prop where
  grown : w.grownBy w' v.ownBlock
  lies : ∀ g, v'.ownBlock = some g → v.ownBlock = some g ∨ w.heap.size ≤ g

theorem grownBy_refl (w : World) (r : Option Nat) : w.grownBy w r := ⟨rfl, rfl, rfl, Nat.le_refl _, fun _ _ _ => rfl⟩
theorem grownBy_trans {a b c : World} {r s : Option Nat} (h : a.grownBy b r) (k : b.grownBy c s) (hs : ∀ g, s = some g → r = some g ∨ a.heap.size ≤ g) : a.grownBy c r :=
  ⟨k.os.trans h.os, k.tape.trans h.tape, k.output.trans h.output, Nat.le_trans h.size k.size, fun i hi hr => by
    refine (k.block i (Nat.lt_of_lt_of_le hi h.size) (fun e => ?_)).trans (h.block i hi hr)
    rcases hs i e.symm with h1 | h1
    · exact hr h1.symm
    · omega⟩
theorem grownBy_alloc (w : World) (o : Obj) (r : Option Nat) : w.grownBy (w.alloc o) r := ⟨rfl, rfl, rfl, by simp, fun k hk _ => Below.heap_alloc w o k hk⟩
theorem Gr.refl (w : World) (v : Value) : Gr w w v v := ⟨grownBy_refl _ _, fun _ h => .inl h⟩
theorem Gr.trans {a b c : World} {u v x : Value} (h : Gr a b u v) (k : Gr b c v x) : Gr a c u x :=
  ⟨grownBy_trans h.grown k.grown h.lies, fun g hg => by
    rcases k.lies g hg with h1 | h1
    · exact h.lies g h1
    · exact .inr (Nat.le_trans h.grown.size h1)⟩
/-- one append, behind a block that was laid for its element -/
theorem Gr.step {w w1 : World} {v v' : Value} (o : Obj) (hg : (w.alloc o).grownBy w1 v.ownBlock) (hat : v'.ownBlock = v.ownBlock ∨ v'.ownBlock = some (w.heap.size + 1)) : Gr w w1 v v' :=
  ⟨grownBy_trans (grownBy_alloc w o _) hg (fun _ h => .inl h), fun g hv => by
    rcases hat with h1 | h1
    · exact .inl (h1.symm.trans hv)
    · rw [h1] at hv; simp at hv; right; omega⟩

set_option maxHeartbeats 8000000 in
set_option maxRecDepth 100000 in
theorem auv (B n x : Nat) (hx : x < 18446744073709551616) (sv : Value) (xs : List Value) (w : World) (hown : w.ownsRow B 5 1 sv n xs) (hBw : B ≤ w.heap.size) (hlim : n + 10 ≤ 140737488355328) :
    Calls Try.prog 21 #[sv, .int .u64 x] w fun e w' => ∃ v', e = .returned v' ∧ w'.ownsRow B 5 1 v' (n + (Lib.uvarint x).length) (xs ++ Lib.byteCells (Lib.uvarint x)) ∧ Gr w w' sv v' := by
  obtain ⟨i0, hi, hz0, hz1, hz2⟩ := info_parts info5
  have hlen := Lib.uvarint_length64 hx
  go_enter Try.func21, Try.ntmps21
  go_wp2
  go_loopw [0, 1] (fun vb vx wr => ∃ (y : Nat) (pre : List UInt8), vx = .int .u64 y ∧ y ≤ x ∧ Lib.uvarint x = pre ++ Lib.uvarint y ∧ wr.ownsRow B 5 1 vb (n + pre.length) (xs ++ Lib.byteCells pre) ∧ Gr w wr sv vb)
    (fun _ vx _ => (intOf vx).toNat)
  case atStart => exact ⟨x, [], rfl, Nat.le_refl _, rfl, by simpa [Lib.byteCells] using hown, Gr.refl _ _⟩
  case round =>
    obtain ⟨y, pre, rfl, hy, hsplit, hown1, hgr⟩ := hrel
    have hpl : pre.length + (Lib.uvarint y).length ≤ 10 := by
      have h2 := congrArg List.length hsplit
      rw [List.length_append] at h2
      omega
    have hyp := Lib.uvarint_pos y
    have hsz := hgr.grown.size
    by_cases h128 : 128 ≤ y
    · have hor : bits .or .u8 ((y : Int) % 256) 128 = ((y % 128 + 128 : Nat) : Int) := by
        rw [Lib.u8_or128_any _ (by omega) (by omega)]
        omega
      go_wp2_with (at_builtin; refine wpList_append_own_at _ rfl _ _ 29 rfl B 5 i0 (.int .u8 0) 1 1 Try.underlying29 hi hz0 hz1 hz2 rfl (by decide) _ _ _ rfl (hown1.alloc _) ⟨wr.heap.size, 0, none⟩ 1 1 [Value.int .u8 ((y % 128 + 128 : Nat) : Int)] rfl rfl ?c1 ?c2 ?c3 ?c4 ?c5 ?_)
      case c1 =>
        intro j u hj
        match j, hj with
        | 0, hj => simp at hj; subst hj; simp [Addr.add]
      case c2 => intro u hu; simp at hu; subst hu; rfl
      case c3 => unfold maxLen; omega
      case c4 => omega
      case c5 => simp; omega
      intro v' w1 hown' hgrow _ hat
      have hgr1 := hgr.trans (Gr.step _ hgrow hat)
      clear hgrow hat hgr hsz
      go_wp2
      go_roundw
      case rel =>
        refine ⟨y / 128, pre ++ [(y % 128 + 128).toUInt8], by go_num, by omega, by rw [hsplit, Lib.uvarint_big h128]; simp, ?_, hgr1⟩
        have ec : ((y % 128 + 128 : Nat) : Int) = (y : Int) % 128 + 128 := by omega
        rw [Lib.byteCells_snoc pre (by omega), List.length_append, List.length_singleton, ← Nat.add_assoc, ec]
        exact hown'
      case measure => simp [intOf]; omega
    · have hsm : Lib.uvarint y = [y.toUInt8] := Lib.uvarint_small (by omega)
      go_wp2_with (at_builtin; refine wpList_append_own_at _ rfl _ _ 29 rfl B 5 i0 (.int .u8 0) 1 1 Try.underlying29 hi hz0 hz1 hz2 rfl (by decide) _ _ _ rfl (hown1.alloc _) ⟨wr.heap.size, 0, none⟩ 1 1 [Value.int .u8 (y : Int)] rfl rfl ?c1 ?c2 ?c3 ?c4 ?c5 ?_)
      case c1 =>
        intro j u hj
        match j, hj with
        | 0, hj => simp at hj; subst hj; simp [Addr.add]
      case c2 => intro u hu; simp at hu; subst hu; rfl
      case c3 => unfold maxLen; omega
      case c4 => omega
      case c5 => simp; omega
      intro v' w1 hown' hgrow _ hat
      have hgr1 := hgr.trans (Gr.step _ hgrow hat)
      clear hgrow hat hgr hsz
      go_wp2
      go_ret
      refine ⟨v', rfl, ?_, hgr1⟩
      rw [hsplit, hsm, Lib.byteCells_snoc pre (by omega), List.length_append, List.length_singleton, ← Nat.add_assoc]
      exact hown'

#print axioms auv
end Go.Proofs.Qxb6619700a
