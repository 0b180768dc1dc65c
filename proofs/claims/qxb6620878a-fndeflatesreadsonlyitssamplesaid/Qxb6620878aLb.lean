/- archLog gives a number for every fraction in [1/2, 1). -/
import Derived.Test.Qxb6620878aDe
import Derived.Test.Qxb6620878aNb
namespace Go.Proofs.Qxb6620878a
open Go.ChangeShapes Go.WideShapes Go.ChangeAt Go.RowKit
set_option linter.unusedVariables false
open Go.Extern

theorem run_add {P : Program} {w : World} {x y r : Nat} (h : F.add x y = some r) : (MathAsm.add x y).run P w = .ok r w := by
  simp [MathAsm.add, MathAsm.arith, Op.floatArith, h]
theorem run_sub {P : Program} {w : World} {x y r : Nat} (h : F.sub x y = some r) : (MathAsm.sub x y).run P w = .ok r w := by
  simp [MathAsm.sub, MathAsm.arith, Op.floatArith, h]
theorem run_mul {P : Program} {w : World} {x y r : Nat} (h : F.mul x y = some r) : (MathAsm.mul x y).run P w = .ok r w := by
  simp [MathAsm.mul, MathAsm.arith, Op.floatArith, h]
theorem run_div {P : Program} {w : World} {x y r : Nat} (h : F.div x y = some r) : (MathAsm.div x y).run P w = .ok r w := by
  simp [MathAsm.div, MathAsm.arith, Op.floatArith, h]

theorem step_if {P : Program} {w : World} {c : Prop} [Decidable c] {a b : Sem Value} {R : Result Value} (h : ¬ c) (hb : b.run P w = R) : (if c then a else b).run P w = R := by
  rw [if_neg h]; exact hb
theorem step {P : Program} {w : World} {m : Sem Nat} {k : Nat → Sem Value} {r : Nat} {R : Result Value} (h : m.run P w = .ok r w) (hk : (k r).run P w = R) : (m >>= k).run P w = R := by
  rw [Sem.run_bind, h]; exact hk

theorem log_run {x : Nat} (h1 : 4602678819172646912 ≤ x) (h2 : x < 4607182418800017408) : ∃ l, (∀ w, (MathLog.archLog #[.float .f64 x]).run Try.prog w = .ok (.float .f64 l) w) ∧ Le l 840 := by
  have e0 : ¬ ((x % 2 ^ 63 == 0) = true) := by simp; omega
  have e1 : ¬ (x ≥ 2 ^ 63) := by omega
  have e2 : ¬ (x ≥ MathAsm.posInf) := by unfold MathAsm.posInf; omega
  have e3 : x % 2 ^ 52 + MathAsm.half = x := by unfold MathAsm.half; omega
  have e4 : MathAsm.ofInt32 (Int.ofNat (x / 2 ^ 52) - 0x3FE) = 0 := by
    rw [show x / 2 ^ 52 = 1022 by omega]
    decide +kernel
  have ex : ∃ S k c, (if (!MathAsm.lt 0x3FE6A09E667F3BCD (x % 2 ^ 52 + MathAsm.half)) = true then MathAsm.one else 0) = S ∧ F.sub (MathAsm.ofInt32 (Int.ofNat (x / 2 ^ 52) - 0x3FE)) S = some k ∧ F.add S MathAsm.one = some c ∧ Le k 1 ∧ c ≤ 4611686018427387904 := by
    rw [e4]
    split
    · exact ⟨_, 13830554455654793216, 4611686018427387904, rfl, by decide +kernel, by decide +kernel, (by
        obtain ⟨m, i, q⟩ := read_le (s := true) (t := 1) (rung := 4607182418800017408) (by decide) (by decide) (by decide)
        exact ⟨true, m, i, q⟩), by decide⟩
    · exact ⟨_, 0, 4607182418800017408, rfl, by decide +kernel, by decide +kernel, le_const (by decide) (by decide) (by decide), by decide⟩
  obtain ⟨S, k, c, hS, hk, hc, hkL, hcL⟩ := ex
  obtain ⟨f1, m1, i1, hf1, r1, r2, r3⟩ := f1_ok (x := x) (c := c) (by omega) hcL
  rw [← e3] at hf1
  obtain ⟨f, hf, hfL⟩ := f_ok r1 r2 r3
  obtain ⟨d, dt, dn, dj, hd, d1, d2, d3, d4, d5⟩ := d_ok hfL
  obtain ⟨s, hs, hsL⟩ := Le.div (by decide) (by decide) hfL d1 d2 d3 d4 d5
  obtain ⟨s2, hs2, hs2L⟩ := Le.mul (by decide) (by decide) (by decide) hsL hsL
  obtain ⟨s4, hs4, hs4L⟩ := Le.mul (by decide) (by decide) (by decide) hs2L hs2L
  have k0 : ∀ {c : Nat}, c ≤ 4607182418800017408 → Le c 0 := fun h => le_const (by decide) (by decide) (Nat.le_trans h (by decide))
  obtain ⟨a1, ha1, la1⟩ := Le.mul (x := 0x3FC2F112DF3E5244) (by decide) (by decide) (by decide) (k0 (by decide)) hs4L
  obtain ⟨a2, ha2, la2⟩ := Le.add (y := 0x3FC7466496CB03DE) (by decide) (by decide) la1 ((k0 (by decide)).mono (by decide))
  obtain ⟨a3, ha3, la3⟩ := Le.mul (by decide) (by decide) (by decide) la2 hs4L
  obtain ⟨a4, ha4, la4⟩ := Le.add (y := 0x3FD2492494229359) (by decide) (by decide) la3 ((k0 (by decide)).mono (by decide))
  obtain ⟨a5, ha5, la5⟩ := Le.mul (by decide) (by decide) (by decide) la4 hs4L
  obtain ⟨a6, ha6, la6⟩ := Le.add (y := 0x3FE5555555555593) (by decide) (by decide) la5 ((k0 (by decide)).mono (by decide))
  obtain ⟨t1, ht1, lt1⟩ := Le.mul (by decide) (by decide) (by decide) hs2L la6
  obtain ⟨b1, hb1, lb1⟩ := Le.mul (x := 0x3FC39A09D078C69F) (by decide) (by decide) (by decide) (k0 (by decide)) hs4L
  obtain ⟨b2, hb2, lb2⟩ := Le.add (y := 0x3FCC71C51D8E78AF) (by decide) (by decide) lb1 ((k0 (by decide)).mono (by decide))
  obtain ⟨b3, hb3, lb3⟩ := Le.mul (by decide) (by decide) (by decide) lb2 hs4L
  obtain ⟨b4, hb4, lb4⟩ := Le.add (y := 0x3FD999999997FA04) (by decide) (by decide) lb3 ((k0 (by decide)).mono (by decide))
  obtain ⟨t2, ht2, lt2⟩ := Le.mul (by decide) (by decide) (by decide) hs4L lb4
  obtain ⟨r, hr, lr⟩ := Le.add (by decide) (by decide) lt1 (lt2.mono (by decide))
  obtain ⟨g0, hg0, lg0⟩ := Le.mul (x := MathAsm.half) (by decide) (by decide) (by decide) (k0 (by decide)) hfL
  obtain ⟨hq, hhq, lhq⟩ := Le.mul (by decide) (by decide) (by decide) lg0 hfL
  obtain ⟨g1, hg1, lg1⟩ := Le.add (by decide) (by decide) lr (lhq.mono (by decide))
  obtain ⟨g2, hg2, lg2⟩ := Le.mul (by decide) (by decide) (by decide) hsL lg1
  obtain ⟨g3, hg3, lg3⟩ := Le.mul (x := 0x3DEA39EF35793C76) (by decide) (by decide) (by decide) (k0 (by decide)) hkL
  obtain ⟨inn, hin, lin⟩ := Le.add (by decide) (by decide) lg2 (lg3.mono (by decide))
  obtain ⟨u1, hu1, lu1⟩ := Le.mul (y := 0x3FE62E42FEE00000) (by decide) (by decide) (by decide) hkL (k0 (by decide))
  obtain ⟨u2, hu2, lu2⟩ := Le.sub (by decide) (by decide) (lhq.mono (by decide)) lin
  obtain ⟨u3, hu3, lu3⟩ := Le.sub (by decide) (by decide) lu2 (hfL.mono (by decide))
  obtain ⟨l, hl, ll⟩ := Le.sub (by decide) (by decide) (lu1.mono (by decide)) lu3
  refine ⟨l, fun w => ?_, ll.mono (by decide)⟩
  refine step_if e0 ?_
  refine step_if e1 ?_
  refine step_if e2 ?_
  rw [← hS] at hk hc
  refine step (run_sub hk) ?_
  refine step (run_add hc) ?_
  refine step (run_mul hf1) ?_
  refine step (run_sub hf) ?_
  refine step (run_add hd) ?_
  refine step (run_div hs) ?_
  refine step (run_mul hs2) ?_
  refine step (run_mul hs4) ?_
  refine step (run_mul ha1) ?_
  refine step (run_add ha2) ?_
  refine step (run_mul ha3) ?_
  refine step (run_add ha4) ?_
  refine step (run_mul ha5) ?_
  refine step (run_add ha6) ?_
  refine step (run_mul ht1) ?_
  refine step (run_mul hb1) ?_
  refine step (run_add hb2) ?_
  refine step (run_mul hb3) ?_
  refine step (run_add hb4) ?_
  refine step (run_mul ht2) ?_
  refine step (run_add hr) ?_
  refine step (run_mul hg0) ?_
  refine step (run_mul hhq) ?_
  refine step (run_add hg1) ?_
  refine step (run_mul hg2) ?_
  refine step (run_mul hg3) ?_
  refine step (run_add hin) ?_
  refine step (run_mul hu1) ?_
  refine step (run_sub hu2) ?_
  refine step (run_sub hu3) ?_
  refine step (run_sub hl) ?_
  rfl

theorem Log_walk {x l : Nat} (h : ∀ w, (MathLog.archLog #[.float .f64 x]).run Try.prog w = .ok (.float .f64 l) w) (w : World) :
    Calls Try.prog 29 #[.float .f64 x] w fun e w' => e = .returned (.float .f64 l) ∧ w = w' := by
  have hc : ∀ w, (callFunc 33 #[.float .f64 x]).run Try.prog w = .ok (.value (.float .f64 l)) w := fun w => by
    rw [run_callFunc_extern (e := MathLog.archLog) Try.func33 (by kernel_rfl) (by kernel_rfl) (by kernel_rfl) (by kernel_rfl), h w]
    rfl
  clear h
  go_enter Try.func29, Try.ntmps29
  go_wp2
  go_ret
  exact ⟨rfl, rfl⟩

theorem log2_half' {x : Nat} (h : Nrm x) (hh : (F.order (frB x) 4602678819172646912 == some .eq) = true) (w : World) : Calls Try.prog 26 #[.float .f64 x] w fun e w' => e = .returned (.float .f64 (floatOfInt .f64 (exB x - 1))) ∧ w = w' := by
  have hE : -2000 ≤ exB x ∧ exB x ≤ 2000 := by
    have := h.places
    simp only [exB]
    omega
  obtain ⟨E, e⟩ : ∃ E, E = exB x := ⟨_, rfl⟩
  obtain ⟨M, eM⟩ : ∃ M, M = frB x := ⟨_, rfl⟩
  have hc := Frexp_walk h
  rw [← eM] at hc hh
  rw [← e] at hE hc ⊢
  clear e eM
  go_enter Try.func26, Try.ntmps26
  go_wp2_with fail
  refine (hc _).mono ?_
  rintro e w1 ⟨rfl, rfl⟩
  go_wp2
  go_ret
  exact ⟨rfl, rfl⟩

theorem int_near (n : Int) : floatOfInt .f64 n = F.nearest (decide (n < 0)) n.natAbs 0 := rfl
theorem int_le {n : Int} (h1 : -1024 ≤ n) (h2 : n ≤ 1024) : Le (floatOfInt .f64 n) 10 := by
  rw [int_near]
  refine near_le (by decide) (by decide) (by decide) ?_
  refine Nat.le_trans (Nat.mul_le_mul_right _ (show n.natAbs ≤ 2 ^ 10 by omega)) ?_
  rw [← Nat.pow_add]
  exact Nat.pow_le_pow_right (by decide) (by decide)

/-- Log2 of a number between 2^-13 and 1 -/
theorem Log2_ok {x : Nat} (h1 : 4548635623644200960 ≤ x) (h2 : x ≤ 4607182418800017408) : ∃ l, (∀ w, Calls Try.prog 22 #[.float .f64 x] w fun e w' => e = .returned (.float .f64 l) ∧ w = w') ∧ Le l 850 := by
  have hN : Nrm x := ⟨by omega, by omega⟩
  have hE : -1023 ≤ exB x ∧ exB x ≤ 1023 := by
    simp only [exB]
    omega
  cases ho : (F.order (frB x) 4602678819172646912 == some .eq) with
  | true => exact ⟨_, Log2_walk (log2_half' hN ho), (int_le (by omega) (by omega)).mono (by decide)⟩
  | false =>
    obtain ⟨l, hl, ll⟩ := log_run (x := frB x) (by simp only [frB]; omega) (by simp only [frB]; omega)
    obtain ⟨p, hp, lp⟩ := Le.mul (y := 4609176140021203710) (by decide) (by decide) (by decide) ll (le_const (t := 1) (by decide) (by decide) (by decide))
    obtain ⟨r, hr, lr⟩ := Le.add (by decide) (by decide) lp ((int_le (n := exB x) (by omega) (by omega)).mono (by decide))
    exact ⟨r, Log2_walk (log2_else hN ho (Log_walk hl) hp hr), lr.mono (by decide)⟩

theorem read8192 : F.read 4665729213955833856 = .number false 4503599627370496 (-39) := by decide +kernel
theorem log2_eq {m : Nat} (h1 : 2 ^ 52 ≤ m) (h2 : m < 2 ^ 53) : m.log2 = 52 := by
  have h0 : m ≠ 0 := by omega
  have := (Nat.le_log2 h0).2 h1
  have := (Nat.log2_lt h0).2 h2
  omega
theorem log2_eq8 {m : Nat} (h1 : 2 ^ 52 ≤ m) (h2 : m < 2 ^ 53) : (8 * m).log2 = 55 := by
  have h0 : 8 * m ≠ 0 := by omega
  have := (Nat.le_log2 (k := 55) h0).2 (by omega)
  have := (Nat.log2_lt (k := 56) h0).2 (by omega)
  omega
theorem quotG {m N : Nat} {i : Int} (e0 : N ≠ 0) (e1 : N.log2 = 52) (e2 : m.log2 = 52) (e3 : m <<< 54 / N = 4 * m) (e4 : m <<< 54 % N = 0) :
    ((Ieee.Datum.number false m i).quotient 54 (.number false N (-39))).map F.write = some (F.nearest false (8 * m) (i - 16)) := by
  have e5 : (2 * (4 * m) + (0 != 0).toNat) = 8 * m := by
    show 2 * (4 * m) + 0 = 8 * m
    omega
  have e6 : i - -39 - ((54 : Nat) : Int) - 1 = i - 16 := by omega
  simp only [Ieee.Datum.quotient, e0, if_false, e1, e2, Nat.add_sub_cancel, e3, e4, e5, e6]
  rfl
theorem quot {m : Nat} {i : Int} (h1 : 2 ^ 52 ≤ m) (h2 : m < 2 ^ 53) : ((Ieee.Datum.number false m i).quotient 54 (.number false 4503599627370496 (-39))).map F.write = some (F.nearest false (8 * m) (i - 16)) :=
  quotG (by decide) (by decide +kernel) (log2_eq h1 h2) (by rw [Nat.shiftLeft_eq]; omega) (by rw [Nat.shiftLeft_eq]; omega)
theorem ar1 {r : Nat} (h1 : 1023 * 4503599627370496 ≤ r) (h2 : r ≤ 1036 * 4503599627370496) : (r < 9218868437227405312 ∧ ¬ r < 4503599627370496) ∧ (2 ^ 52 ≤ 4503599627370496 + r % 4503599627370496 ∧ 4503599627370496 + r % 4503599627370496 < 2 ^ 53) ∧ (-52 ≤ -1074 + ((r / 4503599627370496 - 1 : Nat) : Int) ∧ -1074 + ((r / 4503599627370496 - 1 : Nat) : Int) ≤ 0) := by omega
theorem ar2 {m : Nat} {i : Int} (hi1 : -52 ≤ i) (hi2 : i ≤ 0) (rb : m * 2 ^ (i + 4000).toNat ≤ 2 ^ (13 + 4000 : Int).toNat) : 8 * m * 2 ^ (i - 16 + 4000).toNat ≤ 2 ^ (0 + 4000 : Int).toNat := by
  have e1 : m * 2 ^ (i + 4000).toNat = 8 * m * 2 ^ (i - 16 + 4000).toNat * 2 ^ 13 := by
    rw [show (i + 4000).toNat = (i - 16 + 4000).toNat + 3 + 13 by omega, Nat.pow_add, Nat.pow_add]
    generalize 2 ^ (i - 16 + 4000).toNat = U
    rw [Nat.mul_comm 8 m, Nat.mul_assoc m 8, Nat.mul_comm 8 U, Nat.mul_assoc m]
  have e2 : 2 ^ (13 + 4000 : Int).toNat = 2 ^ (0 + 4000 : Int).toNat * 2 ^ 13 := by
    rw [show (13 + 4000 : Int).toNat = (0 + 4000 : Int).toNat + 13 from rfl, Nat.pow_add]
  rw [e1, e2] at rb
  exact Nat.le_of_mul_le_mul_right rb (Nat.two_pow_pos _)
theorem ar3 {i : Int} {L : Nat} (hi1 : -52 ≤ i) (hL : L = 55) : -13 ≤ i - 16 + (L : Int) := by omega
theorem ar5 {i : Int} (hi1 : -52 ≤ i) : -4000 ≤ i - 16 := by omega
theorem ar4 {q : Nat} (h1 : q ≤ 1023 * 4503599627370496) (h2 : 1010 * 4503599627370496 ≤ q) : 4548635623644200960 ≤ q ∧ q ≤ 4607182418800017408 := by omega

theorem p_ok {c : Nat} (h0 : 0 < c) (h : c ≤ 8192) : ∃ p, F.div (floatOfInt .f64 (c : Nat)) 4665729213955833856 = some p ∧ 4548635623644200960 ≤ p ∧ p ≤ 4607182418800017408 := by
  have en : floatOfInt .f64 ((c : Nat) : Int) = F.nearest false c 0 := by
    rw [int_near, show decide (((c : Nat) : Int) < 0) = false by simp]
    rfl
  have hb : c * 2 ^ (0 + 4000 : Int).toNat ≤ 2 ^ (13 + 4000 : Int).toNat := by
    refine Nat.le_trans (Nat.mul_le_mul_right _ (show c ≤ 2 ^ 13 by omega)) ?_
    rw [← Nat.pow_add]
    exact Nat.pow_le_pow_right (by decide) (by decide)
  obtain ⟨r1, w1, u1⟩ := near_up (neg := false) (by decide) (by decide) (by decide) hb
  obtain ⟨r2, w2, u2, _⟩ := near_low (neg := false) (mag := c) (place := 0) (t := 0) (by decide) (by decide) (by omega) (by omega)
  have er : r1 = r2 := w1.symm.trans w2
  subst er
  obtain ⟨⟨b1, b2⟩, ⟨hm1, hm2⟩, hi1, hi2⟩ := ar1 u2 u1
  obtain ⟨m', i', rd, _, _, _, rb⟩ := read_le (s := false) (t := 13) (by decide) (by decide) u1
  have hread := read_word (s := false) (rung := r1) b1
  rw [if_neg b2] at hread
  rw [hread] at rd
  injection rd with _ em ei
  rw [← em, ← ei] at rb
  generalize 4503599627370496 + r1 % 4503599627370496 = m at *
  generalize -1074 + ((r1 / 4503599627370496 - 1 : Nat) : Int) = i at *
  have hdiv : F.div (floatOfInt .f64 (c : Nat)) 4665729213955833856 = some (F.nearest false (8 * m) (i - 16)) := by
    rw [en, w1]
    unfold Ieee.Format.div
    rw [hread, read8192]
    exact quot hm1 hm2
  have h8 : 8 * m ≠ 0 := Nat.ne_of_gt (Nat.mul_pos (by decide) (Nat.lt_of_lt_of_le (Nat.two_pow_pos 52) hm1))
  obtain ⟨q1, v1, x1⟩ := near_up (neg := false) (by decide) (by decide) (ar5 hi1) (ar2 hi1 hi2 rb)
  obtain ⟨q2, v2, x2, _⟩ := near_low (neg := false) (mag := 8 * m) (place := i - 16) (t := -13) (by decide) (by decide) h8 (ar3 hi1 (log2_eq8 hm1 hm2))
  have eq : q1 = q2 := v1.symm.trans v2
  subst eq
  obtain ⟨y1, y2⟩ := ar4 x1 x2
  exact ⟨q1, by rw [hdiv, v1]; rfl, y1, y2⟩

/-- no NaN -/
def NN (x : Nat) : Prop := (∃ s m i, F.read x = .number s m i) ∨ ∃ s, F.read x = .infinity s
theorem read_inf (s : Bool) : F.read (F.word s 9218868437227405312) = .infinity s := by cases s <;> decide +kernel
theorem nn_word {s : Bool} {rung : Nat} (h : rung ≤ 9218868437227405312) : NN (F.word s rung) := by
  rcases Nat.lt_or_ge rung 9218868437227405312 with hl | hg
  · left
    rw [read_word hl]
    split
    · exact ⟨_, _, _, rfl⟩
    · exact ⟨_, _, _, rfl⟩
  · right
    rw [show rung = 9218868437227405312 by omega]
    exact ⟨s, read_inf s⟩
theorem nn_near (neg : Bool) (mag : Nat) (place : Int) : NN (F.nearest neg mag place) := by
  by_cases h : mag = 0
  · subst h
    exact nn_word (s := neg) (rung := 0) (by omega)
  · rw [near_word h]
    exact nn_word (Nat.min_le_right _ _)
theorem nn_sub {x y : Nat} {t : Int} (hx : NN x) (hy : Le y t) : ∃ r, F.sub x y = some r ∧ NN r := by
  obtain ⟨s, m, i, h1, _⟩ := hy
  unfold Ieee.Format.sub
  rcases hx with ⟨s', m', i', e⟩ | ⟨s', e⟩
  · rw [e, h1]
    exact ⟨_, rfl, nn_near _ _ _⟩
  · rw [e, h1]
    exact ⟨_, rfl, nn_word (Nat.le_refl _)⟩

theorem q_ok {c : Nat} (h0 : 0 < c) (h : c ≤ 8192) : ∃ q, (∃ p l, F.div (floatOfInt .f64 (c : Nat)) 4665729213955833856 = some p ∧ (∀ w, Calls Try.prog 22 #[.float .f64 p] w fun e w' => e = .returned (.float .f64 l) ∧ w = w') ∧ F.mul p l = some q) ∧ Le q 850 := by
  obtain ⟨p, hp, p1, p2⟩ := p_ok h0 h
  obtain ⟨l, hl, ll⟩ := Log2_ok p1 p2
  obtain ⟨q, hq, lq⟩ := Le.mul (by decide) (by decide) (by decide) (le_const (c := p) (t := 0) (by decide) (by decide) (Nat.le_trans p2 (by decide))) ll
  exact ⟨q, ⟨p, l, hp, hl, hq⟩, lq.mono (by decide)⟩

/-- one term for each count; whatever the counts, the sum is no NaN -/
theorem all_terms : ∃ q : Nat → Nat, ∀ C : Nat → Nat, (∀ v, C v ≤ 8192) → Terms q C := by
  have hex : ∀ c : Nat, ∃ q, 0 < c → c ≤ 8192 → (∃ p l, F.div (floatOfInt .f64 (c : Nat)) 4665729213955833856 = some p ∧ (∀ w, Calls Try.prog 22 #[.float .f64 p] w fun e w' => e = .returned (.float .f64 l) ∧ w = w') ∧ F.mul p l = some q) ∧ Le q 850 := fun c => by
    by_cases h : 0 < c ∧ c ≤ 8192
    · obtain ⟨q, hq⟩ := q_ok h.1 h.2
      exact ⟨q, fun _ _ => hq⟩
    · exact ⟨0, fun h1 h2 => absurd ⟨h1, h2⟩ h⟩
  obtain ⟨q, hq⟩ : ∃ q : Nat → Nat, ∀ c, 0 < c → c ≤ 8192 → (∃ p l, F.div (floatOfInt .f64 (c : Nat)) 4665729213955833856 = some p ∧ (∀ w, Calls Try.prog 22 #[.float .f64 p] w fun e w' => e = .returned (.float .f64 l) ∧ w = w') ∧ F.mul p l = some (q c)) ∧ Le (q c) 850 := ⟨fun c => Classical.choose (hex c), fun c => Classical.choose_spec (hex c)⟩
  refine ⟨q, fun C hC => ?_⟩
  have hNN : ∀ v, NN (entr q C v) := by
    intro v
    induction v with
    | zero => exact Or.inl ⟨_, _, _, read0⟩
    | succ v ih =>
      simp only [entr]
      split
      · rename_i hp
        obtain ⟨r, hr, hn⟩ := nn_sub ih (hq (C v) hp (hC v)).2
        rw [hr]
        exact hn
      · exact ih
  refine ⟨fun v _ hp => (hq (C v) hp (hC v)).1, fun v _ hp => ?_⟩
  obtain ⟨r, hr, _⟩ := nn_sub (hNN v) (hq (C v) hp (hC v)).2
  exact ⟨r, hr⟩
end Go.Proofs.Qxb6620878a
