/- FnClosesRunReadsEveryClosingByte: the scanner's contracts: next, closes, ZZCloses. -/
import Derived.Test.Qxb6619751aRows
import Derived.Test.Qxb6619751aPl
import Derived.WalkSpells
import Derived.WalkLawsBesides
import Derived.ProofKit
import Derived.OwnWalk
import Derived.Below
import Derived.Deep.QuietTactic
import Derived.BigQuiet
import Derived.Deep.LoopGhost
namespace Go.Proofs.Qxb6619751a
open Go.RowKit

/-- THE TEXT AS IT IS READ: its bytes l behind the slice, in the world w. -/
def Txt (w : World) (ao : Option Addr) (n : Nat) (l : List UInt8) : Prop :=
  l.length = n ∧ ∀ k (hk : k < l.length), ∃ b off, ao = some ⟨b, off, none⟩ ∧ b < w.heap.size ∧ w.cell? ⟨b, off + k, none⟩ = some (.int .u8 (l[k]).toNat)

theorem s22 (W : World) : (sizeOf (Try.prog.elem 22)).run Try.prog W = .ok 1 W := by kernel_rfl
theorem t22 : Try.prog.underlying 22 = some (.slice (Try.prog.elem 22)) := by kernel_rfl

theorem Txt.at {w : World} {ao : Option Addr} {n : Nat} {l : List UInt8} (h : Txt w ao n l) {k : Nat} (hk : k < n) :
    ∃ p : Addr, (∀ c W, (Instr.indexAt 22 (.slice ao n c) (.int .i64 (k : Int))).run Try.prog W = .ok (.pointer (some p)) W) ∧ ∀ W, Below w.heap.size w W → W.cell? p = some (.int .u8 (l[k]'(by rw [h.1]; exact hk)).toNat) := by
  obtain ⟨b, off, hao, hb, hc⟩ := h.2 k (by rw [h.1]; exact hk)
  subst hao
  refine ⟨⟨b, off + k, none⟩, fun c W => ?_, fun W hW => (hW.cell (p := ⟨b, off + k, none⟩) hb).trans hc⟩
  have h1 : (0 : Int) ≤ (k : Int) := by omega
  have h2 : (k : Int) < (n : Int) := by omega
  rw [run_indexAt_slice _ _ _ _ _ _ _ t22, if_pos ⟨h1, h2⟩, s22]
  simp [Result.andThen, Addr.add]

theorem bel_drewN {B : Nat} {a b : World} (h : Below B a b) (n : Nat) : Below B a (b.drewN n) := ⟨h.os, h.tape, h.output, h.size, h.block⟩

/-- the byte that next answers -/
def nb (l : List UInt8) (a : Nat) : Nat := match (l.drop (nx l a)) with | [] => 0 | b :: _ => b.toNat
theorem nb_end (l : List UInt8) (a : Nat) (h : l.length ≤ a) : nb l a = 0 := by
  unfold nb; rw [nx_end l a h, List.drop_eq_nil_of_le h]
theorem nb_no (l : List UInt8) (a : Nat) (h : a < l.length) (hs : isSp l[a] = false) : nb l a = (l[a]).toNat := by
  unfold nb; rw [nx_no l a h hs, drop_cons l a h]
theorem nb_sp (l : List UInt8) (a : Nat) (h : a < l.length) (hs : isSp l[a] = true) : nb l a = nb l (a + 1) := by
  unfold nb; rw [nx_sp l a h hs]

theorem sp_cases (b : UInt8) : (isSp b = true ∧ ((b.toNat : Int) = 32 ∨ (b.toNat : Int) = 9 ∨ (b.toNat : Int) = 10 ∨ (b.toNat : Int) = 13)) ∨ (isSp b = false ∧ (b.toNat : Int) ≠ 32 ∧ (b.toNat : Int) ≠ 9 ∧ (b.toNat : Int) ≠ 10 ∧ (b.toNat : Int) ≠ 13) := by
  unfold isSp
  by_cases h1 : b.toNat = 32
  · left; simp [h1]
  by_cases h2 : b.toNat = 9
  · left; simp [h2]
  by_cases h3 : b.toNat = 10
  · left; simp [h3]
  by_cases h4 : b.toNat = 13
  · left; simp [h4]
  right
  simp [h1, h2, h3, h4]
  omega

theorem setW (w : World) (cs : Array Value) (i q : Nat) (v : Value) : ((w.alloc (.cells cs 29)).drewN q).setCell ⟨w.heap.size, i, none⟩ v = (w.alloc (.cells (cs.setIfInBounds i v) 29)).drewN q := by
  have h := World.setCell_alloc_at (w := w) cs 29 w.heap.size i v rfl
  have e : ((w.alloc (.cells cs 29)).drewN q).setCell ⟨w.heap.size, i, none⟩ v = ((w.alloc (.cells cs 29)).setCell ⟨w.heap.size, i, none⟩ v).drewN q := rfl
  rw [e, h]
theorem set1 (w : World) (s x D : Value) (a q : Nat) : ((w.alloc (.cells #[s, x, D] 29)).drewN q).setCell ⟨w.heap.size, 1, none⟩ (.int .i64 ((a : Int) + 1)) = (w.alloc (.cells #[s, .int .i64 ((a + 1 : Nat) : Int), D] 29)).drewN q := by
  rw [setW]
  rfl

set_option maxRecDepth 100000 in
set_option maxHeartbeats 1000000 in
theorem next_any (w : World) (ao : Option Addr) (n c : Nat) (l : List UInt8) (hT : Txt w ao n l) (hn : n ≤ 1048576) (A : Nat) (hA : A ≤ 9223372036854775807) (D : Int) (q : Nat) :
    Calls Try.prog 8 #[.pointer (some ⟨w.heap.size, 0, none⟩)] ((w.alloc (.cells #[.slice ao n c, .int .i64 A, .int .i64 D] 29)).drewN q) fun e w' =>
      e = .returned (.int .u8 (nb l A)) ∧ ∃ q', w' = (w.alloc (.cells #[.slice ao n c, .int .i64 (nx l A), .int .i64 D] 29)).drewN q' := by
  go_enter Try.func8, Try.ntmps8
  go_wp2
  go_loopg [] (n + 1) (fun k wr => ∃ a q', wr = (w.alloc (.cells #[.slice ao n c, .int .i64 ((a : Nat) : Int), .int .i64 D] 29)).drewN q' ∧ nx l a = nx l A ∧ nb l a = nb l A ∧ a ≤ 9223372036854775807 ∧ n - a < k)
  case atStart => exact ⟨A, q, rfl, rfl, rfl, hA, by omega⟩
  case round =>
    obtain ⟨a, q', rfl, hnx, hnb, ha, hk⟩ := hrel
    have HX : Hid (nx l a = nx l A) := hnx
    have HB : Hid (nb l a = nb l A) := hnb
    clear hnx hnb
    by_cases hlt : a < n
    · have hal : a < l.length := by rw [hT.1]; exact hlt
      obtain ⟨p, hp, hc⟩ := hT.at hlt
      have hcw : (w.alloc (.cells #[.slice ao n c, .int .i64 ((a : Nat) : Int), .int .i64 D] 29)).cell? p = some (.int .u8 (l[a]).toNat) := hc _ ((Below.refl _ _).alloc (Nat.le_refl _) _)
      clear hc
      have hi1 : (0 : Int) ≤ (a : Int) := by omega
      have hi2 : (a : Int) < (n : Int) := by omega
      rcases sp_cases l[a] with ⟨hs, hsp⟩ | ⟨hs, h1, h2, h3, h4⟩
      · have HX2 : Hid (nx l (a + 1) = nx l A) := by show _ = _; rw [← nx_sp l a hal hs]; exact HX.out
        have HB2 : Hid (nb l (a + 1) = nb l A) := by show _ = _; rw [← nb_sp l a hal hs]; exact HB.out
        clear hs HX HB
        rcases hsp with hv | hv | hv | hv
        all_goals
          rw [hv] at hcw
          clear hv
          go_wp2
          go_quiet (fail)
          go_wp2
          go_quiet (fail)
          go_wp2
          go_roundg (gk - 1)
          case measure => omega
          case rel => exact ⟨a + 1, q' + _ + _, set1 _ _ _ _ _ _, HX2.out, HB2.out, by omega, by omega⟩
      · have HX2 : Hid (nx l A = a) := by show _ = _; rw [← HX.out]; exact nx_no l a hal hs
        have HB2 : Hid (nb l A = (l[a]).toNat) := by show _ = _; rw [← HB.out]; exact nb_no l a hal hs
        clear hs HX HB
        generalize l[a] = b at *
        have g1 : ((b.toNat : Int) == 32) = false := by simpa using h1
        have g2 : ((b.toNat : Int) == 9) = false := by simpa using h2
        have g3 : ((b.toNat : Int) == 10) = false := by simpa using h3
        have g4 : ((b.toNat : Int) == 13) = false := by simpa using h4
        clear h1 h2 h3 h4
        go_wp2
        go_quiet (fail)
        go_wp2
        go_quiet (fail)
        go_wp2
        go_ret
        refine ⟨by rw [HB2.out]; rfl, ?_⟩
        rw [HX2.out]
        exact ⟨_, rfl⟩
    · have hlt2 : decide ((a : Int) < (n : Int)) = false := decide_eq_false (by omega)
      have HX2 : Hid (nx l A = a) := by show _ = _; rw [← HX.out]; exact nx_end l a (by rw [hT.1]; omega)
      have HB2 : Hid (nb l A = 0) := by show _ = _; rw [← HB.out]; exact nb_end l a (by rw [hT.1]; omega)
      clear HX HB
      go_wp2
      go_quiet (fail)
      go_wp2
      go_ret
      refine ⟨by rw [HB2.out]; rfl, ?_⟩
      rw [HX2.out]
      exact ⟨_, World.drewN_drewN _ _ _⟩

theorem nb_hit {l : List UInt8} {a c : Nat} (h : nb l a = c) (hc : 0 < c) : ∃ hl : nx l a < l.length, (l[nx l a]).toNat = c := by
  unfold nb at h
  rcases Nat.lt_or_ge (nx l a) l.length with h1 | h1
  · rw [drop_cons l _ h1] at h
    exact ⟨h1, h⟩
  · rw [List.drop_eq_nil_of_le h1] at h
    simp at h
    omega

set_option maxRecDepth 100000 in
theorem closes_hit (w : World) (ao : Option Addr) (n cp : Nat) (l : List UInt8) (hT : Txt w ao n l) (hn : n ≤ 1048576) (A : Nat) (hA : A ≤ 9223372036854775807) (D : Int) (q c : Nat) (hc : nb l A = c) (hc0 : 0 < c) :
    Calls Try.prog 7 #[.pointer (some ⟨w.heap.size, 0, none⟩), .int .u8 c] ((w.alloc (.cells #[.slice ao n cp, .int .i64 A, .int .i64 D] 29)).drewN q) fun e w' =>
      e = .returned (.bool true) ∧ ∃ q', w' = (w.alloc (.cells #[.slice ao n cp, .int .i64 ((nx l A + 1 : Nat) : Int), .int .i64 (wrap64 (D + 1))] 29)).drewN q' := by
  obtain ⟨h1, _⟩ := nb_hit hc hc0
  rw [hT.1] at h1
  obtain ⟨x, hx⟩ : ∃ x, x = nx l A := ⟨_, rfl⟩
  have hnext := next_any w ao n cp l hT hn A hA D q
  rw [← hx] at h1 hnext ⊢
  rw [hc] at hnext
  clear hx hc
  go_enter Try.func7, Try.ntmps7
  go_wp2_with fail
  refine hnext.mono ?_
  rintro e w1 ⟨rfl, q1, rfl⟩
  go_wp2
  go_ret
  exact ⟨rfl, q1, by rw [set1, setW]; rfl⟩

set_option maxRecDepth 100000 in
theorem closes_miss (w : World) (ao : Option Addr) (n cp : Nat) (l : List UInt8) (hT : Txt w ao n l) (hn : n ≤ 1048576) (A : Nat) (hA : A ≤ 9223372036854775807) (D : Int) (q c : Nat) (hc : nb l A ≠ c) :
    Calls Try.prog 7 #[.pointer (some ⟨w.heap.size, 0, none⟩), .int .u8 c] ((w.alloc (.cells #[.slice ao n cp, .int .i64 A, .int .i64 D] 29)).drewN q) fun e w' =>
      e = .returned (.bool false) ∧ ∃ q', w' = (w.alloc (.cells #[.slice ao n cp, .int .i64 (nx l A), .int .i64 D] 29)).drewN q' := by
  have hnext := next_any w ao n cp l hT hn A hA D q
  obtain ⟨y, hy⟩ : ∃ y, y = nb l A := ⟨_, rfl⟩
  rw [← hy] at hnext hc
  have hyc : ((y : Int) == (c : Int)) = false := by simp; omega
  clear hy
  go_enter Try.func7, Try.ntmps7
  go_wp2_with fail
  refine hnext.mono ?_
  rintro e w1 ⟨rfl, q1, rfl⟩
  go_wp2
  go_ret
  exact ⟨rfl, q1, rfl⟩

theorem below_new (w : World) (o : Obj) (q : Nat) : Below w.heap.size w ((w.alloc o).drewN q) := bel_drewN ((Below.refl _ _).alloc (Nat.le_refl _) _) q

set_option maxRecDepth 100000 in
theorem zz_hit (w : World) (ao : Option Addr) (n cp : Nat) (l : List UInt8) (hT : Txt w ao n l) (hn : n ≤ 1048576) (A : Nat) (hA : A ≤ 9223372036854775807) (D : Int) (c : Nat) (hc : nb l A = c) (hc0 : 0 < c) :
    Calls Try.prog 6 #[.slice ao n cp, .int .i64 A, .int .i64 D, .int .u8 c] w fun e w' =>
      e = .returned (.tuple #[.bool true, .int .i64 ((nx l A + 1 : Nat) : Int), .int .i64 (wrap64 (D + 1))]) ∧ Below w.heap.size w w' := by
  have h := closes_hit w ao n cp l hT hn A hA D 0 c hc hc0
  have h0 : (w.alloc (.cells #[.slice ao n cp, .int .i64 A, .int .i64 D] 29)).drewN 0 = w.alloc (.cells #[.slice ao n cp, .int .i64 A, .int .i64 D] 29) := rfl
  rw [h0] at h
  obtain ⟨x, hx⟩ : ∃ x, x = nx l A + 1 := ⟨_, rfl⟩
  obtain ⟨D', hD⟩ : ∃ D', D' = wrap64 (D + 1) := ⟨_, rfl⟩
  rw [← hx, ← hD] at h ⊢
  clear hx hD hc
  go_enter Try.func6, Try.ntmps6
  go_wp2_with fail
  refine h.mono ?_
  rintro e w1 ⟨rfl, q1, rfl⟩
  go_wp2
  go_quiet (fail)
  go_wp2
  go_ret3
  refine ⟨rfl, ?_⟩
  rw [World.drewN_drewN]
  exact below_new w _ _

set_option maxRecDepth 100000 in
theorem zz_miss (w : World) (ao : Option Addr) (n cp : Nat) (l : List UInt8) (hT : Txt w ao n l) (hn : n ≤ 1048576) (A : Nat) (hA : A ≤ 9223372036854775807) (D : Int) (c : Nat) (hc : nb l A ≠ c) :
    Calls Try.prog 6 #[.slice ao n cp, .int .i64 A, .int .i64 D, .int .u8 c] w fun e w' =>
      e = .returned (.tuple #[.bool false, .int .i64 (nx l A), .int .i64 D]) ∧ Below w.heap.size w w' := by
  have h := closes_miss w ao n cp l hT hn A hA D 0 c hc
  have h0 : (w.alloc (.cells #[.slice ao n cp, .int .i64 A, .int .i64 D] 29)).drewN 0 = w.alloc (.cells #[.slice ao n cp, .int .i64 A, .int .i64 D] 29) := rfl
  rw [h0] at h
  obtain ⟨x, hx⟩ : ∃ x, x = nx l A := ⟨_, rfl⟩
  rw [← hx] at h ⊢
  clear hx hc
  go_enter Try.func6, Try.ntmps6
  go_wp2_with fail
  refine h.mono ?_
  rintro e w1 ⟨rfl, q1, rfl⟩
  go_wp2
  go_quiet (fail)
  go_wp2
  go_ret3
  refine ⟨rfl, ?_⟩
  rw [World.drewN_drewN]
  exact below_new w _ _

#print axioms zz_hit
#print axioms zz_miss
end Go.Proofs.Qxb6619751a
