/- math.Log2 of a normal positive double: Abs, IsInf, IsNaN, normalize, frexp, Frexp, log2, Log2; the logarithm itself by a contract handed in. -/
import Derived.Test.Qxb6620878aRows
import Derived.WalkKit
import Derived.ProofKit
import Derived.Laws.FloatArith
import Derived.Laws.Externs
import Derived.Test.Qxb6620878aFf
namespace Go.Proofs.Qxb6620878a
open Go.ChangeShapes Go.WideShapes Go.ChangeAt Go.RowKit
set_option linter.unusedVariables false

/-- Float64bits, Float64frombits: the same bits -/
theorem bits_run (x : Nat) (w : World) : (callFunc 38 #[.float .f64 x]).run Try.prog w = .ok (.value (.int .u64 x)) w := by
  rw [run_callFunc_extern (e := Extern.MathFloatBits.float64bits) Try.func38 (by kernel_rfl) (by kernel_rfl) (by kernel_rfl) (by kernel_rfl)]
  rfl
theorem frombits_run (x : Nat) (w : World) : (callFunc 39 #[.int .u64 (x : Int)]).run Try.prog w = .ok (.value (.float .f64 x)) w := by
  rw [run_callFunc_extern (e := Extern.MathFloatBits.float64frombits) Try.func39 (by kernel_rfl) (by kernel_rfl) (by kernel_rfl) (by kernel_rfl)]
  rfl

/-- a normal positive number -/
structure Nrm (x : Nat) : Prop where
  lo : 4503599627370496 ≤ x
  hi : x < 9218868437227405312

/-- what a normal positive word stands for -/
theorem Nrm.read {x : Nat} (h : Nrm x) : F.read x = .number false (4503599627370496 + x % 4503599627370496) (-1074 + (x / 4503599627370496 - 1 : Nat)) := by
  have h1 := h.lo
  have h2 := h.hi
  have e1 : x % 9223372036854775808 = x := Nat.mod_eq_of_lt (by omega)
  have e2 : x / 9223372036854775808 % 2 = 0 := by omega
  have c1 : F.fractionBits = 52 := rfl
  have c2 : F.leastPlace = -1074 := rfl
  have c3 : F.binade = 4503599627370496 := rfl
  have c4 : F.infRung = 9218868437227405312 := rfl
  have c5 : F.signWeight = 9223372036854775808 := rfl
  unfold Ieee.Format.read
  simp only [c2, c3, c4, c5, e1, e2]
  rw [if_neg (by omega), if_pos (by omega)]
  simp
theorem Nrm.places {x : Nat} (h : Nrm x) : 1 ≤ x / 4503599627370496 ∧ x / 4503599627370496 ≤ 2046 := by
  have h1 := h.lo
  have h2 := h.hi
  omega
theorem read0 : F.read 0 = .number false 0 (-1074) := by decide +kernel
theorem readMax : F.read 9218868437227405311 = .number false 9007199254740991 971 := by decide +kernel
theorem readLeast : F.read 4503599627370496 = .number false 4503599627370496 (-1074) := by decide +kernel

theorem order_num (m n : Nat) (i j : Int) : (Ieee.Datum.number false m i).order (.number false n j) = some (compare ((m * 2 ^ (i - min i j).toNat : Nat) : Int) ((n * 2 ^ (j - min i j).toNat : Nat) : Int)) := by
  simp only [Ieee.Datum.order, Ieee.signed, Bool.false_eq_true, if_false, Nat.shiftLeft_eq]
theorem order_pos {m : Nat} (hm : 0 < m) (i j : Int) : ((Ieee.Datum.number false m i).order (.number false 0 j) == some .eq) = false := by
  rw [order_num]
  generalize 2 ^ (j - min i j).toNat = b
  have hp : 0 < m * 2 ^ (i - min i j).toNat := Nat.mul_pos hm (Nat.two_pow_pos _)
  generalize m * 2 ^ (i - min i j).toNat = a at hp
  have : compare (a : Int) ((0 * b : Nat) : Int) = .gt := by
    rw [Int.compare_eq_gt, Nat.zero_mul]
    omega
  rw [this]
  rfl
theorem order_le {m n : Nat} {i j : Int} (hm : m ≤ n) (hi : i ≤ j) : ((Ieee.Datum.number false m i).order (.number false n j) == some .gt) = false := by
  rw [order_num, show min i j = i from Int.min_eq_left hi, show (i - i).toNat = 0 by omega]
  have hp : 1 ≤ 2 ^ (j - i).toNat := Nat.one_le_two_pow
  have hle : m * 2 ^ 0 ≤ n * 2 ^ (j - i).toNat := Nat.mul_le_mul hm hp
  generalize m * 2 ^ 0 = a at hle ⊢
  generalize n * 2 ^ (j - i).toNat = b at hle ⊢
  have : compare (a : Int) (b : Int) ≠ .gt := by
    rw [Ne, Int.compare_eq_gt]
    omega
  simpa using this
theorem order_ge {m n : Nat} {i j : Int} (hm : n ≤ m) (hi : j ≤ i) : ((Ieee.Datum.number false m i).order (.number false n j) == some .lt) = false := by
  rw [order_num, show min i j = j from Int.min_eq_right hi, show (j - j).toNat = 0 by omega]
  have hp : 1 ≤ 2 ^ (i - j).toNat := Nat.one_le_two_pow
  have hle : n * 2 ^ 0 ≤ m * 2 ^ (i - j).toNat := Nat.mul_le_mul hm hp
  generalize n * 2 ^ 0 = a at hle ⊢
  generalize m * 2 ^ (i - j).toNat = b at hle ⊢
  have : compare (b : Int) (a : Int) ≠ .lt := by
    rw [Ne, Int.compare_eq_lt]
    omega
  simpa using this

theorem Nrm.not_zero {x : Nat} (h : Nrm x) : (F.order x 0 == some .eq) = false := by
  unfold Ieee.Format.order
  rw [h.read, read0]
  exact order_pos (by omega) _ _
theorem Nrm.not_inf {x : Nat} (h : Nrm x) : (F.order x 9218868437227405311 == some .gt) = false := by
  have hp := h.places
  unfold Ieee.Format.order
  rw [h.read, readMax]
  exact order_le (by omega) (by omega)
theorem Nrm.same {x : Nat} (h : Nrm x) : (F.order x x != some .eq) = false := by
  unfold Ieee.Format.order
  rw [h.read]
  simp [Ieee.Datum.order]
theorem Nrm.not_sub {x : Nat} (h : Nrm x) : (F.order x 4503599627370496 == some .lt) = false := by
  have hp := h.places
  unfold Ieee.Format.order
  rw [h.read, readLeast]
  exact order_ge (by omega) (by omega)

theorem andNot_nat (a b m : Nat) (ha : a < 18446744073709551616) (hm : (~~~(BitVec.ofInt 64 (b : Int))).toNat = m) : bits .andNot .u64 (a : Int) (b : Int) = ((a &&& m : Nat) : Int) := by
  have h1 : (BitVec.ofInt 64 (a : Int)).toNat = a := by
    rw [BitVec.ofInt_natCast, BitVec.toNat_ofNat]; exact Nat.mod_eq_of_lt (by omega)
  have hx : a &&& m < 2 ^ 64 := Nat.lt_of_le_of_lt Nat.and_le_left (by omega)
  show IntKind.u64.wrap ((BitVec.ofInt 64 (a : Int) &&& ~~~(BitVec.ofInt 64 (b : Int))).toNat : Int) = _
  rw [BitVec.toNat_and, h1, hm, IntKind.wrap_u64]
  omega
theorem clear_sign {x : Nat} (h : x < 9223372036854775808) : bits .andNot .u64 (x : Int) 9223372036854775808 = (x : Int) := by
  have := andNot_nat x 9223372036854775808 (2 ^ 63 - 1) (by omega) (by decide +kernel)
  rw [Nat.and_two_pow_sub_one_eq_mod, Nat.mod_eq_of_lt (by omega)] at this
  exact this
theorem and_top {x : Nat} (h : x < 2 ^ 63) : x &&& 2 ^ 63 = 0 := by
  apply Nat.eq_of_testBit_eq
  intro i
  rw [Nat.testBit_and, Nat.testBit_two_pow]
  by_cases hi : 63 = i
  · subst hi
    simp [Nat.testBit_lt_two_pow h]
  · simp [hi]
theorem clear_exp {x : Nat} (h : x < 9223372036854775808) : bits .andNot .u64 (x : Int) 9218868437227405312 = ((x % 4503599627370496 : Nat) : Int) := by
  have := andNot_nat x 9218868437227405312 (2 ^ 63 ||| (2 ^ 52 - 1)) (by omega) (by decide +kernel)
  rw [Nat.and_or_distrib_left, Nat.and_two_pow_sub_one_eq_mod, and_top h, Nat.zero_or] at this
  exact this
theorem set_half {y : Nat} (h : y < 4503599627370496) : bits .or .u64 (y : Int) 4602678819172646912 = ((y + 4602678819172646912 : Nat) : Int) := by
  have := bits_or_u64_nat y 4602678819172646912 (by omega) (by omega)
  rw [Nat.or_comm, show (4602678819172646912 : Nat) = 2 ^ 52 * 1022 from rfl, ← Nat.two_pow_add_eq_or_of_lt (by omega)] at this
  rw [show ((2 ^ 52 * 1022 : Nat) : Int) = 4602678819172646912 from rfl] at this
  rw [this]
  congr 1
  omega
theorem and_2047 {y : Nat} (h : y < 4096) : bits .and .u64 (y : Int) 2047 = ((y % 2048 : Nat) : Int) := by
  have := bits_and_u64_nat y 2047 (by omega) (by omega)
  rw [show (2047 : Nat) = 2 ^ 11 - 1 from rfl, Nat.and_two_pow_sub_one_eq_mod] at this
  exact this

theorem abs_walk {x : Nat} (h : Nrm x) (w : World) : Calls Try.prog 42 #[.float .f64 x] w fun e w' => e = .returned (.float .f64 x) ∧ w = w' := by
  have hx : x < 9223372036854775808 := by have := h.hi; omega
  have hc := clear_sign hx
  have hb := bits_run x
  have hf := frombits_run x
  clear hx
  go_enter Try.func42, Try.ntmps42
  go_wp2
  go_ret
  exact ⟨rfl, rfl⟩

theorem isInf_walk {x : Nat} (h : Nrm x) (w : World) : Calls Try.prog 35 #[.float .f64 x, .int .i64 0] w fun e w' => e = .returned (.bool false) ∧ w = w' := by
  have h1 := h.not_inf
  go_enter Try.func35, Try.ntmps35
  go_wp2_with fail
  refine (abs_walk h _).mono ?_
  rintro e w1 ⟨rfl, rfl⟩
  go_wp2
  go_ret
  exact ⟨rfl, rfl⟩
theorem isNaN_walk {x : Nat} (h : Nrm x) (w : World) : Calls Try.prog 36 #[.float .f64 x] w fun e w' => e = .returned (.bool false) ∧ w = w' := by
  have h1 := h.same
  go_enter Try.func36, Try.ntmps36
  go_wp2
  go_ret
  exact ⟨rfl, rfl⟩
theorem normalize_walk {x : Nat} (h : Nrm x) (w : World) : Calls Try.prog 37 #[.float .f64 x] w fun e w' => e = .returned (.tuple #[.float .f64 x, .int .i64 0]) ∧ w = w' := by
  have h1 := h.not_sub
  go_enter Try.func37, Try.ntmps37
  go_wp2_with fail
  refine (abs_walk h _).mono ?_
  rintro e w1 ⟨rfl, rfl⟩
  go_wp2
  go_ret2
  exact ⟨rfl, rfl⟩

def frB (x : Nat) : Nat := x % 4503599627370496 + 4602678819172646912
def exB (x : Nat) : Int := (x / 4503599627370496 : Nat) - 1022

theorem shr52 (x : Nat) : (x : Int) / 4503599627370496 = ((x / 4503599627370496 : Nat) : Int) := by omega

theorem frexp_walk {x : Nat} (h : Nrm x) (w : World) : Calls Try.prog 32 #[.float .f64 x] w fun e w' => e = .returned (.tuple #[.float .f64 (frB x), .int .i64 (exB x)]) ∧ w = w' := by
  have h0 := h.not_zero
  have hb := bits_run x
  have hx : x < 9223372036854775808 := by have := h.hi; omega
  have hp := h.places
  have hc := clear_exp hx
  have hs := set_half (Nat.mod_lt x (show 0 < 4503599627370496 by decide))
  obtain ⟨m, hm⟩ : ∃ m, m = x % 4503599627370496 := ⟨_, rfl⟩
  rw [← hm] at hc hs
  obtain ⟨M, hM⟩ : ∃ M, M = m + 4602678819172646912 := ⟨_, rfl⟩
  rw [← hM] at hs
  have hf := frombits_run M
  obtain ⟨E, hE⟩ : ∃ E, E = x / 4503599627370496 := ⟨_, rfl⟩
  rw [← hE] at hp
  have ha := and_2047 (y := E) (by omega)
  rw [Nat.mod_eq_of_lt (by omega)] at ha
  have hq : (x : Int) / 4503599627370496 = (E : Int) := by omega
  have e1 : frB x = M := by simp only [frB, hm, hM]
  have e2 : exB x = (E : Int) - 1022 := by simp only [exB, hE]
  rw [e1, e2]
  clear hm hM hE e1 e2 hx
  go_enter Try.func32, Try.ntmps32
  go_wp2_with fail
  refine (isInf_walk h _).mono ?_
  rintro e w1 ⟨rfl, rfl⟩
  go_wp2_with fail
  refine (isNaN_walk h _).mono ?_
  rintro e w1 ⟨rfl, rfl⟩
  go_wp2_with fail
  refine (normalize_walk h _).mono ?_
  rintro e w1 ⟨rfl, rfl⟩
  go_wp2
  go_ret2
  refine ⟨?_, rfl⟩
  show Ending.returned (.tuple #[.float .f64 M, .int .i64 ((E : Int) - 1023 + 1)]) = _
  rw [show (E : Int) - 1023 + 1 = (E : Int) - 1022 by omega]

theorem Frexp_walk {x : Nat} (h : Nrm x) (w : World) : Calls Try.prog 28 #[.float .f64 x] w fun e w' => e = .returned (.tuple #[.float .f64 (frB x), .int .i64 (exB x)]) ∧ w = w' := by
  obtain ⟨M, hM⟩ : ∃ M, M = frB x := ⟨_, rfl⟩
  obtain ⟨E, hE⟩ : ∃ E, E = exB x := ⟨_, rfl⟩
  have hc := frexp_walk h
  rw [← hM, ← hE] at hc ⊢
  clear hM hE
  go_enter Try.func28, Try.ntmps28
  go_wp2_with fail
  refine (hc _).mono ?_
  rintro e w1 ⟨rfl, rfl⟩
  go_wp2
  go_ret2
  exact ⟨rfl, rfl⟩

/-- log2 where the fraction is one half: the power's own exponent -/
theorem log2_half {x : Nat} (h : Nrm x) (hh : frB x = 4602678819172646912) (w : World) : Calls Try.prog 26 #[.float .f64 x] w fun e w' => e = .returned (.float .f64 (floatOfInt .f64 (exB x - 1))) ∧ w = w' := by
  have hE : -2000 ≤ exB x ∧ exB x ≤ 2000 := by
    have := h.places
    simp only [exB]
    omega
  obtain ⟨E, e⟩ : ∃ E, E = exB x := ⟨_, rfl⟩
  have hc := Frexp_walk h
  rw [hh] at hc
  rw [← e] at hE hc ⊢
  clear e hh
  have ho : (F.order 4602678819172646912 4602678819172646912 == some .eq) = true := by decide +kernel
  go_enter Try.func26, Try.ntmps26
  go_wp2_with fail
  refine (hc _).mono ?_
  rintro e w1 ⟨rfl, rfl⟩
  go_wp2
  go_ret
  exact ⟨rfl, rfl⟩
/-- log2 elsewhere: by the logarithm of the fraction -/
theorem log2_else {x l p r : Nat} (h : Nrm x) (hh : (F.order (frB x) 4602678819172646912 == some .eq) = false)
    (hl : ∀ w, Calls Try.prog 29 #[.float .f64 (frB x)] w fun e w' => e = .returned (.float .f64 l) ∧ w = w')
    (hm : F.mul l 4609176140021203710 = some p) (ha : F.add p (floatOfInt .f64 (exB x)) = some r) (w : World) :
    Calls Try.prog 26 #[.float .f64 x] w fun e w' => e = .returned (.float .f64 r) ∧ w = w' := by
  obtain ⟨E, e⟩ : ∃ E, E = exB x := ⟨_, rfl⟩
  obtain ⟨M, eM⟩ : ∃ M, M = frB x := ⟨_, rfl⟩
  have hc := Frexp_walk h
  rw [← eM] at hc hh hl
  rw [← e] at hc ha
  clear e eM
  have h1 := fun w => run_float_arith (P := Try.prog) w .mul 49 .f64 l 4609176140021203710 p hm
  have h2 := fun w => run_float_arith (P := Try.prog) w .add 49 .f64 p (floatOfInt .f64 E) r ha
  go_enter Try.func26, Try.ntmps26
  go_wp2_with fail
  refine (hc _).mono ?_
  rintro e w1 ⟨rfl, rfl⟩
  go_wp2_with fail
  refine (hl _).mono ?_
  rintro e w1 ⟨rfl, rfl⟩
  go_wp2
  go_ret
  exact ⟨rfl, rfl⟩
/-- Log2 -/
theorem Log2_walk {x r : Nat} (h : ∀ w, Calls Try.prog 26 #[.float .f64 x] w fun e w' => e = .returned (.float .f64 r) ∧ w = w') (w : World) :
    Calls Try.prog 22 #[.float .f64 x] w fun e w' => e = .returned (.float .f64 r) ∧ w = w' := by
  go_enter Try.func22, Try.ntmps22
  go_wp2_with fail
  refine (h _).mono ?_
  rintro e w1 ⟨rfl, rfl⟩
  go_wp2
  go_ret
  exact ⟨rfl, rfl⟩
end Go.Proofs.Qxb6620878a
