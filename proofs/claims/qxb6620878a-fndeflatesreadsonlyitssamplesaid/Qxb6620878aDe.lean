/- deflates: what it computes. -/
import Derived.Test.Qxb6620878aLg
import Derived.Laws.Rows
import Derived.Deep.WholeRow
import Derived.Laws.CopyOwn
import Derived.Deep.OwnRows
import Derived.Deep.Light
import Derived.Deep.CutRange
namespace Go.Proofs.Qxb6620878a
open Go.ChangeShapes Go.WideShapes Go.ChangeAt Go.RowKit
set_option linter.unusedVariables false

/-- a slice's bytes -/
structure Byt (w : World) (b o n : Nat) (f : Nat → Nat) : Prop where
  old : b < w.heap.size
  cell : ∀ k, k < n → w.cell? ⟨b, o + k, none⟩ = some (.int .u8 (f k : Nat))
  small : ∀ k, f k < 256

def inc (C : Nat → Nat) (v : Nat) : Nat → Nat := fun u => if u = v then C u + 1 else C u
def win (f : Nat → Nat) (C : Nat → Nat) (s : Nat) : Nat → Nat → Nat
  | 0 => C
  | j + 1 => inc (win f C s j) (f (s + j))
def at7 (n i : Nat) : Nat := (n - 1024) * i / 7
def cnt (f : Nat → Nat) (n : Nat) : Nat → Nat → Nat
  | 0 => fun _ => 0
  | i + 1 => win f (cnt f n i) (at7 n i) 1024

theorem inc_le (C : Nat → Nat) (v : Nat) (B : Nat) (h : ∀ u, C u ≤ B) : ∀ u, inc C v u ≤ B + 1 := fun u => by
  have := h u
  unfold inc
  split <;> omega
theorem win_le (f : Nat → Nat) (C : Nat → Nat) (s B : Nat) (h : ∀ u, C u ≤ B) : ∀ j u, win f C s j u ≤ B + j
  | 0 => h
  | j + 1 => inc_le _ _ _ (win_le f C s B h j)
theorem cnt_le (f : Nat → Nat) (n : Nat) : ∀ i u, cnt f n i u ≤ 1024 * i
  | 0 => fun _ => by simp [cnt]
  | i + 1 => fun u => by
    have := win_le f _ (at7 n i) _ (cnt_le f n i) 1024 u
    simp only [cnt]
    omega

def arr (C : Nat → Nat) : Array Value := Array.ofFn (n := 256) fun v => .int .i64 (C v.val : Nat)
theorem arr_size (C : Nat → Nat) : (arr C).size = 256 := by simp [arr]
theorem arr_at (C : Nat → Nat) (v : Nat) (h : v < 256) : (arr C)[v]? = some (.int .i64 (C v : Nat)) := by
  rw [Array.getElem?_eq_getElem (by rw [arr_size]; exact h)]
  simp [arr]
theorem arr_set (C : Nat → Nat) (v : Nat) (h : v < 256) : (arr C).setIfInBounds v (.int .i64 ((C v : Nat) + 1)) = arr (inc C v) := by
  apply Array.ext_getElem?
  intro i
  rw [Array.getElem?_setIfInBounds]
  by_cases hi : i < 256
  · rw [arr_at _ _ hi, arr_size]
    by_cases hv : v = i
    · subst hv
      simp [h, arr_at, inc]
    · rw [if_neg hv, arr_at _ _ hi]
      simp only [inc]
      rw [if_neg (fun e => hv e.symm)]
  · rw [Array.getElem?_eq_none (by rw [arr_size]; omega)]
    split
    · rename_i e
      subst e
      simp [arr_size, hi]
    · rw [Array.getElem?_eq_none (by rw [arr_size]; omega)]

theorem arr_zero : arr (fun _ => 0) = Array.replicate 256 (.int .i64 0) := by
  apply Array.ext_getElem?
  intro i
  by_cases hi : i < 256
  · rw [arr_at _ _ hi]; simp [hi]
  · simp [arr, hi]

theorem zero39 (w : World) : (zeroValue 39).run Try.prog w = .ok (.agg (arr (fun _ => 0))) w := by
  have h : (Try.prog.info? 39).map (·.zero) = some (some (.agg (arr (fun _ => 0)))) := by kernel_rfl
  cases hq : Try.prog.info? 39 with
  | none => simp [hq] at h
  | some i =>
    have hz : i.zero = some (.agg (arr (fun _ => 0))) := by simpa [hq] using h
    simp [zeroValue, typeInfo, hq, hz, Sem.run_bind]

theorem idx39 (C : Nat → Nat) (v : Nat) (h : v < 256) (w : World) : (Instr.index 39 (.agg (arr C)) (.int .i64 (v : Nat))).run Try.prog w = .ok (.int .i64 (C v : Nat)) w := by
  have hu := run_underlying Try.underlying39 w
  have hu3 := run_underlying Try.underlying3 w
  have h3 : (Try.prog.info? 3).map (·.size) = some 1 := by kernel_rfl
  cases hq : Try.prog.info? 3 with
  | none => simp [hq] at h3
  | some i =>
    have hs : i.size = 1 := by simpa [hq] using h3
    simp [Instr.index, asIntOf, hu, sizeOf, typeInfo, hq, hs, part, isAgg, hu3, arr_at C v h, Sem.run_bind, Result.andThen]
    omega

/-- the sum so far: the terms p*log2(p) drawn off -/
def entr (q C : Nat → Nat) : Nat → Nat
  | 0 => 0
  | v + 1 => if 0 < C v then (F.sub (entr q C v) (q (C v))).getD 0 else entr q C v

/-- what Log2 gives for one count; the term; that the sum is one -/
structure Terms (q C : Nat → Nat) : Prop where
  term : ∀ v, v < 256 → 0 < C v → ∃ p l, F.div (floatOfInt .f64 (C v : Nat)) 4665729213955833856 = some p ∧ (∀ w, Calls Try.prog 22 #[.float .f64 p] w fun e w' => e = .returned (.float .f64 l) ∧ w = w') ∧ F.mul p l = some (q (C v))
  sum : ∀ v, v < 256 → 0 < C v → ∃ r, F.sub (entr q C v) (q (C v)) = some r

set_option maxRecDepth 100000 in
set_option maxHeartbeats 4000000 in
theorem def_walk {b o n c : Nat} {f : Nat → Nat} {w : World} (hB : Byt w b o n f) (h1 : 8192 ≤ n) (h2 : n ≤ 1048576) (hc : n ≤ c) {q : Nat → Nat} (hq : Terms q (cnt f n 8)) {R : Bool} (hr : R = (F.order (entr q (cnt f n 8) 256) 4620636922686786765 == some .lt)) :
    Calls Try.prog 19 #[.slice (some ⟨b, o, none⟩) n c] w fun e w' => e = .returned (.bool R) ∧ w' = w.alloc (.cells (arr (cnt f n 8)) 39) := by
  have hz := zero39
  have hd8 : decide ((n : Int) < 8192) = false := by simp; omega
  have hn1 : 1024 ≤ n := by omega
  replace h1 : Hid (8192 ≤ n) := h1
  replace hq : Hid (Terms q (cnt f n 8)) := hq
  replace hr : Hid (R = (F.order (entr q (cnt f n 8) 256) 4620636922686786765 == some .lt)) := hr
  go_enter Try.func19, Try.ntmps19
  go_wp2
  go_loopw [15] (fun i w' => ∃ k : Nat, k ≤ 8 ∧ i = .int .i64 k ∧ w' = w.alloc (.cells (arr (cnt f n k)) 39)) (fun i _ => 8 - (intOf i).toNat)
  · exact ⟨0, by omega, rfl, rfl⟩
  · obtain ⟨k, hk, rfl, rfl⟩ := hrel
    by_cases h8 : k < 8
    · obtain ⟨M, hM⟩ : ∃ M, M = (n - 1024) * k := ⟨_, rfl⟩
      have hM1 : ((n : Int) - 1024) * (k : Int) = (M : Int) := by
        rw [hM, Int.natCast_mul, Int.natCast_sub (by omega)]
        rfl
      have hM2 : M ≤ (n - 1024) * 7 := by rw [hM]; exact Nat.mul_le_mul_left _ (by omega)
      obtain ⟨S, hS⟩ : ∃ S, S = at7 n k := ⟨_, rfl⟩
      have hS1 : (M : Int) / 7 = (S : Int) := by rw [hS, at7, ← hM]; omega
      have hS2 : S + 1024 ≤ n := by omega
      have hA : Hid (S = at7 n k) := hS
      clear hM hS
      go_wp2
      go_loopw [30] (fun i w' => ∃ j : Nat, j ≤ 1024 ∧ i = .int .i64 j ∧ w' = w.alloc (.cells (arr (win f (cnt f n k) S j)) 39)) (fun i _ => 1024 - (intOf i).toNat)
      · exact ⟨0, by omega, rfl, rfl⟩
      · obtain ⟨j, hj, rfl, rfl⟩ := hrel
        by_cases hj2 : j < 1024
        · obtain ⟨C, hC⟩ : ∃ C, C = win f (cnt f n k) S j := ⟨_, rfl⟩
          obtain ⟨v, hv⟩ : ∃ v, v = f (S + j) := ⟨_, rfl⟩
          have hv2 : v < 256 := by rw [hv]; exact hB.small _
          have hCv : C v ≤ 1048576 := by
            have := win_le f (cnt f n k) S _ (cnt_le f n k) j v
            rw [hC]
            omega
          rw [← hC]
          obtain ⟨W, hW⟩ : ∃ W, W = w.alloc (.cells (arr C) 39) := ⟨_, rfl⟩
          have hc1 : W.cell? ⟨b, o + S + j, none⟩ = some (.int .u8 (v : Nat)) := by
            rw [hW, hv, World.cell?_alloc_lt _ _ _ hB.old, Nat.add_assoc]
            exact hB.cell _ (by omega)
          have hc2 : W.cell? ⟨w.heap.size, v, none⟩ = some (.int .i64 (C v : Nat)) := by
            rw [hW, cell_of_row _ _ v _ _ (0, 0) (heap_alloc_new w _)]
            exact arr_at C v hv2
          have hc3 : W.frozen? ⟨w.heap.size, v, none⟩ = false := by
            rw [hW]
            exact frozen_of_row _ _ _ _ _ (heap_alloc_new w _)
          have hset : W.setCell ⟨w.heap.size, v, none⟩ (.int .i64 ((C v : Nat) + 1)) = w.alloc (.cells (arr (inc C v)) 39) := by
            rw [hW, setCell_eq_setRow _ _ _ _ _ _ _ (heap_alloc_new w _), World.setRow_alloc_new, arr_set C v hv2]
          have hnext : Hid (inc C v = win f (cnt f n k) S (j + 1)) := by
            rw [hC, hv]; rfl
          have hset' : Hid (W.setCell ⟨w.heap.size, v, none⟩ (.int .i64 ((C v : Nat) + 1)) = w.alloc (.cells (arr (inc C v)) 39)) := hset
          rw [← hW]
          clear hset hv hC hW
          go_wp2
          refine ⟨⟨j + 1, by omega, rfl, ?_⟩, by simp only [intOf]; omega⟩
          rw [← hnext.out]
          exact hset'.out
        · have hj3 : j = 1024 := by omega
          subst hj3
          go_wp2
          refine ⟨⟨k + 1, by omega, rfl, ?_⟩, by simp only [intOf]; omega⟩
          simp only [cnt]
          rw [← hA.out]
    · have hk3 : k = 8 := by omega
      subst hk3
      have hle := cnt_le f n 8
      obtain ⟨C, hC⟩ : ∃ C, C = cnt f n 8 := ⟨_, rfl⟩
      rw [← hC] at hle ⊢
      obtain ⟨W, hW⟩ : ∃ W, W = w.alloc (.cells (arr C) 39) := ⟨_, rfl⟩
      have hrow : W.heap[w.heap.size]? = some (.cells (arr C) 39 (0, 0)) := by
        rw [hW]
        exact heap_alloc_new w _
      have hsz : (Try.prog.info? 39).map (·.size) = some (arr C).size := by rw [arr_size]; kernel_rfl
      have hidx : ∀ v, v < 256 → ∀ w, (Instr.index 39 (.agg (arr C)) (.int .i64 (v : Nat))).run Try.prog w = .ok (.int .i64 (C v : Nat)) w := fun v hv w => idx39 C v hv w
      have hbel : Hid (W = w.alloc (.cells (arr (cnt f n 8)) 39)) := by rw [← hC]; exact hW
      have hT : Hid (Terms q C) := by rw [hC]; exact hq
      rw [← hW]
      have hR : Hid (R = (F.order (entr q C 256) 4620636922686786765 == some .lt)) := by rw [hC]; exact hr
      obtain ⟨A, hA⟩ : ∃ A, A = arr C := ⟨_, rfl⟩
      rw [← hA] at hrow hsz hidx
      clear hA hW hC hq hr
      go_wp2_with (refine wpList_load_row rfl 39 (.tmp 3) rfl w.heap.size rfl 39 A (0, 0) _ hrow Try.underlying39 rfl hsz ?_)
      go_loop [8, 42] (fun s i => ∃ v : Nat, v ≤ 256 ∧ i = .int .i64 v ∧ s = .float .f64 (entr q C v)) (fun _ i => 256 - (intOf i).toNat)
      · exact ⟨0, by omega, rfl, rfl⟩
      · obtain ⟨v, hv, rfl, rfl⟩ := hrel
        by_cases hv2 : v < 256
        · have hiv := hidx v hv2
          clear hidx
          have hstep : Hid (entr q C (v + 1) = if 0 < C v then (F.sub (entr q C v) (q (C v))).getD 0 else entr q C v) := rfl
          by_cases hp : 0 < C v
          · obtain ⟨p, l, h1, h2, h3⟩ := hT.out.term v hv2 hp
            obtain ⟨r, h4⟩ := hT.out.sum v hv2 hp
            have hstep2 : Hid (entr q C (v + 1) = r) := by rw [hstep.out, if_pos hp, h4]; rfl
            have hlev := hle v
            obtain ⟨Q, hQ⟩ : ∃ Q, Q = q (C v) := ⟨_, rfl⟩
            rw [← hQ] at h3 h4
            obtain ⟨cv, hcv⟩ : ∃ cv, cv = C v := ⟨_, rfl⟩
            rw [← hcv] at h1 hiv hp hlev
            obtain ⟨E, hE⟩ : ∃ E, E = entr q C v := ⟨_, rfl⟩
            rw [← hE] at h4 ⊢
            have g1 := fun w => run_float_arith (P := Try.prog) w .quo 49 .f64 (floatOfInt .f64 (cv : Nat)) 4665729213955833856 p h1
            have g2 := fun w => run_float_arith (P := Try.prog) w .mul 49 .f64 p l Q h3
            have g3 := fun w => run_float_arith (P := Try.prog) w .sub 49 .f64 E Q r h4
            clear hQ hcv hE h1 h3 h4 hle
            go_wp2_with fail
            refine (h2 _).mono ?_
            rintro e w1 ⟨rfl, rfl⟩
            clear h2
            go_wp2
            exact ⟨⟨v + 1, by omega, rfl, by rw [hstep2.out]⟩, by simp only [intOf]; omega⟩
          · have hp0 : C v = 0 := by omega
            rw [hp0] at hiv
            have hstep2 : Hid (entr q C (v + 1) = entr q C v) := by rw [hstep.out, if_neg hp]; exact rfl
            obtain ⟨E, hE⟩ : ∃ E, E = entr q C v := ⟨_, rfl⟩
            rw [← hE] at hstep2 ⊢
            clear hE hstep hle
            go_wp2
            exact ⟨⟨v + 1, by omega, rfl, by rw [hstep2.out]⟩, by simp only [intOf]; omega⟩
        · have hv3 : v = 256 := by omega
          subst hv3
          clear hidx
          obtain ⟨E, hE⟩ : ∃ E, E = entr q C 256 := ⟨_, rfl⟩
          rw [← hE] at hR ⊢
          clear hE hle
          go_wp2
          go_ret
          exact ⟨by rw [hR.out]; rfl, hbel.out⟩

set_option maxRecDepth 100000 in
/-- short input: true -/
theorem def_short {a : Option Addr} {n c : Nat} {w : World} (h1 : n < 8192) :
    Calls Try.prog 19 #[.slice a n c] w fun e w' => e = .returned (.bool true) ∧ w = w' := by
  have hd : decide ((n : Int) < 8192) = true := by simp; omega
  clear h1
  go_enter Try.func19, Try.ntmps19
  go_wp2
  go_ret
  exact ⟨rfl, rfl⟩
theorem zz_walk {sv : Value} {w : World} {R : Bool} {Post : World → Prop} (h : Calls Try.prog 19 #[sv] w fun e w' => e = .returned (.bool R) ∧ Post w') :
    Calls Try.prog 8 #[sv] w fun e w' => e = .returned (.bool R) ∧ Post w' := by
  go_enter Try.func8, Try.ntmps8
  go_wp2_with fail
  refine h.mono ?_
  rintro e w1 ⟨rfl, hp⟩
  go_wp2
  go_ret
  exact ⟨rfl, hp⟩
end Go.Proofs.Qxb6620878a
