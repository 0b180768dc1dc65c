/- FnDeflatesEvenAlphabet: the walk. -/
import Derived.Test.Qxb6620878aEv
namespace Go.Proofs.Qxb6620878a
open Go.ChangeShapes Go.WideShapes Go.ChangeAt Go.RowKit
set_option linter.unusedVariables false

def row (n : Nat) (g : Nat → Nat) : Array Value := Array.ofFn (n := n) fun i => .int .u8 (g i.val : Nat)
theorem row_size (n : Nat) (g : Nat → Nat) : (row n g).size = n := by simp [row]
theorem row_at (n : Nat) (g : Nat → Nat) (i : Nat) (h : i < n) : (row n g)[i]? = some (.int .u8 (g i : Nat)) := by
  rw [Array.getElem?_eq_getElem (by rw [row_size]; exact h)]
  simp [row]
def upto (f : Nat → Nat) (j : Nat) : Nat → Nat := fun i => if i < j then f i else 0
theorem row_set (n : Nat) (f : Nat → Nat) (j : Nat) (h : j < n) : (row n (upto f j)).setIfInBounds j (.int .u8 (f j : Nat)) = row n (upto f (j + 1)) := by
  apply Array.ext_getElem?
  intro i
  rw [Array.getElem?_setIfInBounds]
  by_cases hi : i < n
  · rw [row_at _ _ _ hi, row_size]
    by_cases hv : j = i
    · subst hv
      rw [row_at _ _ _ h]
      simp [h, upto]
    · rw [if_neg hv, row_at _ _ _ hi]
      simp only [upto]
      by_cases hl : i < j
      · rw [if_pos hl, if_pos (by omega)]
      · rw [if_neg hl, if_neg (by omega)]
  · rw [Array.getElem?_eq_none (by rw [row_size]; omega)]
    split
    · rename_i e
      subst e
      simp [row_size, hi]
    · rw [Array.getElem?_eq_none (by rw [row_size]; omega)]
theorem row_congr {n : Nat} {f g : Nat → Nat} (h : ∀ i, i < n → f i = g i) : row n f = row n g := by
  apply Array.ext_getElem?
  intro i
  by_cases hi : i < n
  · rw [row_at _ _ _ hi, row_at _ _ _ hi, h i hi]
  · rw [Array.getElem?_eq_none (by rw [row_size]; omega), Array.getElem?_eq_none (by rw [row_size]; omega)]
theorem row_full (n : Nat) (f : Nat → Nat) : row n (upto f n) = row n f := row_congr fun i hi => by simp [upto, hi]
theorem row_made (n : Nat) (f : Nat → Nat) : madeCells #[.int .u8 0] n = row n (upto f 0) := by
  apply Array.ext_getElem?
  intro i
  by_cases hi : i < n
  · rw [row_at _ _ _ hi]
    simp [madeCells, upto, hi, Nat.mod_one]
  · rw [Array.getElem?_eq_none (xs := madeCells _ _) (by rw [size_madeCells]; omega), Array.getElem?_eq_none (by rw [row_size]; omega)]
theorem info5 : (Try.prog.info? 5).map (fun i => (i.zero, i.size, i.bytes)) = some (some (.int .u8 0), 1, 1) := by kernel_rfl
theorem mk_run (n : Nat) (hn : n ≤ 1048576) (f : Nat → Nat) (W : World) : (Instr.makeSlice 22 (.int .i64 (n : Nat)) (.int .i64 (n : Nat))).run Try.prog W = .ok (.slice (some ⟨W.heap.size, 0, none⟩) n n) (W.alloc (.cells (row n (upto f 0)) 5)) := by
  have := run_make_row' (P := Try.prog) 22 5 (.int .u8 0) 1 Try.underlying22 info5 rfl .i64 .i64 n (by omega) (by omega) W
  rw [← row_made]
  exact this

theorem or_one (m : Nat) (hm : m < 256) : bits .or .u8 ((m : Int) * 2 % 256) 1 = (((2 * m + 1) % 256 : Nat) : Int) := by
  rw [bits_join .u8 8 (by decide) wraps_u8 1 _ _ (by omega) (by omega) (by omega) (by omega) (by omega) (by omega)]
  omega
theorem and_mask (j k : Nat) (hj : j ≤ 65536) (hk : k < 9) : bits .and .i64 (j : Int) ((2 : Int) ^ k - 1) = ((j % 2 ^ k : Nat) : Int) := by
  rw [bits_mask .i64 62 (by decide) (fun n h0 h1 => by rw [IntKind.wrap_i64]; omega) k (by omega) (j : Int) (by omega) (by omega)]
  simp
theorem pow_le {k : Nat} (hk : k < 9) : 1 ≤ 2 ^ k ∧ 2 ^ k ≤ 256 := ⟨Nat.one_le_two_pow, Nat.pow_le_pow_right (n := 2) (j := 8) (by decide) (by omega)⟩

theorem row_byt (w : World) (n : Nat) (f : Nat → Nat) (hs : ∀ i, f i < 256) : Byt (w.alloc (.cells (row n f) 5)) w.heap.size 0 n f :=
  ⟨by simp, fun k hk => by rw [cell_of_row _ _ _ _ _ (0, 0) (heap_alloc_new w _), Nat.zero_add]; exact row_at n f k hk, hs⟩

theorem ev_core {n k A m O K : Nat} {f : Nat → Nat} {w : World} (hn : n ≤ 65536) (hk : k < 9) (hm : m < 256) (hA : A < 256)
    (hfin : Hid (8192 ≤ n → Calls Try.prog 8 #[.slice (some ⟨w.heap.size, 0, none⟩) n n] (w.alloc (.cells (row n f) 5)) fun e w' => e = .returned (.bool (decide (k < 8))) ∧ Grown w w'))
    (hsh : Hid (n < 8192 → Calls Try.prog 8 #[.slice (some ⟨w.heap.size, 0, none⟩) n n] (w.alloc (.cells (row n f) 5)) fun e w' => e = .returned (.bool true) ∧ Grown w w'))
    (hmk : ∀ (W : World), (Instr.makeSlice 22 (.int .i64 (n : Nat)) (.int .i64 (n : Nat))).run Try.prog W = .ok (.slice (some ⟨W.heap.size, 0, none⟩) n n) (W.alloc (.cells (row n (upto f 0)) 5)))
    (hor : bits .or .u8 ((m : Int) * 2 % 256) 1 = (O : Int)) (hand : ∀ (j : Nat), j ≤ 65536 → bits .and .i64 (j : Int) ((K : Int) - 1) = ((j % K : Nat) : Int))
    (hK1 : wrap64 ((2 : Int) ^ k) = (K : Int)) (hK2 : wrap64 ((K : Int) - 1) = (K : Int) - 1) (hfj : Hid (∀ j, f j = (j % K * O + A) % 256)) (hO2 : O < 256) (hp2 : 1 ≤ K ∧ K ≤ 256) :
    Calls Try.prog 3 #[.int .i64 (n : Nat), .int .u8 (k : Nat), .int .u8 (m : Nat), .int .u8 (A : Nat)] w fun e w' => e = .returned (.bool true) ∧ Grown w w' := by
  go_enter Try.func3, Try.ntmps3
  go_wp2
  go_loopw [12] (fun i w' => ∃ j : Nat, j ≤ n ∧ i = .int .i64 j ∧ w' = w.alloc (.cells (row n (upto f j)) 5)) (fun i _ => n - (intOf i).toNat)
  · exact ⟨0, by omega, rfl, rfl⟩
  · obtain ⟨j, hj, rfl, rfl⟩ := hrel
    by_cases hj2 : j < n
    · have ha := hand j (by omega)
      clear hand hmk
      obtain ⟨r, hr⟩ : ∃ r, r = j % K := ⟨_, rfl⟩
      have hr2 : r < 256 := by
        have := Nat.mod_lt j (show 0 < K by omega)
        omega
      rw [← hr] at ha
      have hfj2 : Hid (f j = (r * O + A) % 256) := by rw [hr]; exact hfj.out j
      clear hr
      obtain ⟨W, hW⟩ : ∃ W, W = w.alloc (.cells (row n (upto f j)) 5) := ⟨_, rfl⟩
      have hc2 : W.cell? ⟨w.heap.size, j, none⟩ = some (.int .u8 ((upto f j j : Nat) : Int)) := by
        rw [hW, cell_of_row _ _ _ _ _ (0, 0) (heap_alloc_new w _)]
        exact row_at n _ j hj2
      have hc3 : W.frozen? ⟨w.heap.size, j, none⟩ = false := by
        rw [hW]
        exact frozen_of_row _ _ _ _ _ (heap_alloc_new w _)
      have hset : Hid (W.setCell ⟨w.heap.size, j, none⟩ (.int .u8 (f j : Nat)) = w.alloc (.cells (row n (upto f (j + 1))) 5)) := by
        show W.setCell _ _ = _
        rw [hW, setCell_eq_setRow _ _ _ _ _ _ _ (heap_alloc_new w _), World.setRow_alloc_new, row_set n f j hj2]
      rw [← hW]
      clear hW
      go_wp2
      have e1 : ((r : Int) * (O : Int) + (A : Int)) % 256 = ((f j : Nat) : Int) := by
        rw [hfj2.out, Int.natCast_emod, Int.natCast_add, Int.natCast_mul]
        rfl
      refine ⟨⟨j + 1, by omega, rfl, ?_⟩, by simp only [intOf]; omega⟩
      rw [e1]
      exact hset.out
    · have hj3 : j = n := by omega
      subst hj3
      rw [row_full]
      clear hand hmk
      by_cases h8 : j < 8192
      · have hc := hsh.out h8
        clear hsh hfin
        obtain ⟨W, hW⟩ : ∃ W, W = w.alloc (.cells (row j f) 5) := ⟨_, rfl⟩
        rw [← hW] at hc ⊢
        clear hW
        have hd8 : decide ((j : Int) < 8192) = true := by simp; omega
        clear h8
        go_wp2_with fail
        refine hc.mono ?_
        rintro e w1 ⟨rfl, hg⟩
        go_wp2
        go_ret
        exact ⟨rfl, hg⟩
      · have hc := hfin.out (by omega)
        clear hsh hfin
        obtain ⟨W, hW⟩ : ∃ W, W = w.alloc (.cells (row j f) 5) := ⟨_, rfl⟩
        rw [← hW] at hc ⊢
        clear hW
        have hdd : decide ((k : Int) < 8) = decide (k < 8) := by simp; omega
        obtain ⟨B, hB⟩ : ∃ B, B = decide (k < 8) := ⟨_, rfl⟩
        rw [← hB] at hc hdd
        clear hB
        have hd8 : decide ((j : Int) < 8192) = false := by simp; omega
        clear h8
        go_wp2_with fail
        refine hc.mono ?_
        rintro e w1 ⟨rfl, hg⟩
        go_wp2
        go_ret
        exact ⟨rfl, hg⟩

theorem ev_walk {n k A m : Nat} {w : World} (hn : n ≤ 65536) (hk : k < 9) (hm : m < 256) (hA : A < 256) :
    Calls Try.prog 3 #[.int .i64 (n : Nat), .int .u8 (k : Nat), .int .u8 (m : Nat), .int .u8 (A : Nat)] w fun e w' => e = .returned (.bool true) ∧ Grown w w' := by
  obtain ⟨O, hO⟩ : ∃ O, O = (2 * m + 1) % 256 := ⟨_, rfl⟩
  obtain ⟨f, hf⟩ : ∃ f, f = evF (2 ^ k) O A := ⟨_, rfl⟩
  have hs : ∀ i, f i < 256 := fun i => by rw [hf]; exact Nat.mod_lt _ (by decide)
  have hlaw := even_law hk (f := f) (fun i => by rw [hf]; exact evF_period k O A i) hs (fun a b ha hb e => evF_inj (O := O) (A := A) hk (by omega) (by omega) a b ha hb (by rw [hf] at e; exact e)) n
  obtain ⟨hT, hR⟩ := hlaw
  have hfin : Hid (8192 ≤ n → Calls Try.prog 8 #[.slice (some ⟨w.heap.size, 0, none⟩) n n] (w.alloc (.cells (row n f) 5)) fun e w' => e = .returned (.bool (decide (k < 8))) ∧ Grown w w') := fun h => by
    refine (zz_walk (def_walk (row_byt w n f hs) h (by omega) (Nat.le_refl _) hT hR.symm)).mono ?_
    rintro e w1 ⟨he, hw⟩
    subst hw
    exact ⟨he, ((Grown.refl w).alloc _ _).alloc _ _⟩
  have hsh : Hid (n < 8192 → Calls Try.prog 8 #[.slice (some ⟨w.heap.size, 0, none⟩) n n] (w.alloc (.cells (row n f) 5)) fun e w' => e = .returned (.bool true) ∧ Grown w w') := fun h => by
    refine (zz_walk (def_short (w := w.alloc (.cells (row n f) 5)) (a := some ⟨w.heap.size, 0, none⟩) (c := n) h)).mono ?_
    rintro e w1 ⟨he, hw⟩
    subst hw
    exact ⟨he, (Grown.refl w).alloc _ _⟩
  have hmk := mk_run n (by omega) f
  have hor := or_one m hm
  rw [← hO] at hor
  have hp := pow_le hk
  have hand := fun j hj => and_mask j k hj hk
  obtain ⟨K, hK⟩ : ∃ K, K = 2 ^ k := ⟨_, rfl⟩
  have hK1 : wrap64 ((2 : Int) ^ k) = (K : Int) := by
    have : ((2 : Int) ^ k) = (K : Int) := by rw [hK]; simp
    rw [this]
    unfold wrap64
    omega
  have hK2 : wrap64 ((K : Int) - 1) = (K : Int) - 1 := by
    unfold wrap64
    omega
  have hK3 : ((2 : Int) ^ k) = (K : Int) := by rw [hK]; simp
  rw [hK3] at hand
  rw [← hK] at hand
  have hfj : Hid (∀ j, f j = (j % K * O + A) % 256) := fun j => by rw [hf, hK]; rfl
  have hO2 : O < 256 := by omega
  have hp2 : 1 ≤ K ∧ K ≤ 256 := by rw [hK]; exact hp
  exact ev_core hn hk hm hA hfin hsh hmk hor hand hK1 hK2 hfj hO2 hp2
end Go.Proofs.Qxb6620878a
