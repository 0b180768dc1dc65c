/- Bounds on the operations on doubles: what is not too great stays a number. -/
import Derived.Test.Qxb6620878aFf
namespace Go.Proofs.Qxb6620878a

theorem cut_le {neg : Bool} {n drop U : Nat} (h : n ≤ U * 2 ^ drop) : Ieee.Toward.even.cut neg n drop ≤ U := by
  simp only [Ieee.Toward.cut]
  by_cases hd : drop ≤ n.log2 + 2
  · rw [Nat.min_eq_left hd, Nat.one_shiftLeft]
    have hg : 0 < 2 ^ drop := Nat.two_pow_pos _
    generalize 2 ^ drop = g at h hg ⊢
    have hdm := Nat.div_add_mod n g
    have hl : n / g ≤ U := Nat.div_le_of_le_mul (by rw [Nat.mul_comm]; exact h)
    rcases Nat.lt_or_ge (n / g) U with hlt | hge
    · have : ∀ b : Bool, b.toNat ≤ 1 := fun b => by cases b <;> decide
      have := this (decide (g < 2 * (n % g)) || g == 2 * (n % g) && n / g % 2 == 1)
      omega
    · have e : n / g = U := by omega
      rw [e] at hdm ⊢
      have hr : n % g = 0 := by
        rw [Nat.mul_comm] at hdm
        omega
      rw [hr]
      have h1 : decide (g < 2 * 0) = false := by simp
      have h2 : (g == 2 * 0) = false := by simp; omega
      rw [h1, h2]
      simp
  · rw [Nat.min_eq_right (by omega), Nat.one_shiftLeft]
    have hn : n < 2 ^ (n.log2 + 1) := Nat.lt_log2_self
    have hp : 2 ^ (n.log2 + 2) = 2 * 2 ^ (n.log2 + 1) := by rw [Nat.pow_succ 2 (n.log2 + 1), Nat.mul_comm]
    rw [hp]
    generalize 2 ^ (n.log2 + 1) = g at hn ⊢
    rw [Nat.div_eq_of_lt (by omega), Nat.mod_eq_of_lt (by omega)]
    have h1 : decide (2 * g < 2 * n) = false := by simp; omega
    have h2 : (2 * g == 2 * n) = false := by simp; omega
    rw [h1, h2]
    simp
theorem cut_ge {neg : Bool} {n drop U : Nat} (h : U * 2 ^ drop ≤ n) (hU : 0 < U) : U ≤ Ieee.Toward.even.cut neg n drop := by
  simp only [Ieee.Toward.cut]
  by_cases hd : drop ≤ n.log2 + 2
  · rw [Nat.min_eq_left hd, Nat.one_shiftLeft]
    have hl : U ≤ n / 2 ^ drop := (Nat.le_div_iff_mul_le (Nat.two_pow_pos _)).2 h
    omega
  · exfalso
    have hn : n < 2 ^ (n.log2 + 1) := Nat.lt_log2_self
    have h1 : 2 ^ (n.log2 + 1) ≤ 2 ^ drop := Nat.pow_le_pow_right (by decide) (by omega)
    have h2 : 1 * 2 ^ drop ≤ U * 2 ^ drop := Nat.mul_le_mul_right _ hU
    omega

theorem near_word {neg : Bool} {mag : Nat} {place : Int} (h : mag ≠ 0) : F.nearest neg mag place =
    F.word neg (min ((max (place + mag.log2 - 52) (-1074) - -1074).toNat * 4503599627370496 + Ieee.Toward.even.cut neg (mag <<< (place - max (place + mag.log2 - 52) (-1074)).toNat) (max (place + mag.log2 - 52) (-1074) - place).toNat) 9218868437227405312) := by
  unfold Ieee.Format.nearest
  rw [if_neg h]
  rfl

theorem near_up {neg : Bool} {mag : Nat} {place t : Int} (ht : -1022 ≤ t) (ht2 : t ≤ 1023) (hp : -4000 ≤ place) (h : mag * 2 ^ (place + 4000).toNat ≤ 2 ^ (t + 4000).toNat) :
    ∃ rung, F.nearest neg mag place = F.word neg rung ∧ rung ≤ (t + 1023).toNat * 4503599627370496 := by
  by_cases h0 : mag = 0
  · subst h0
    exact ⟨0, rfl, Nat.zero_le _⟩
  · refine ⟨_, near_word h0, ?_⟩
    have hL1 : 2 ^ mag.log2 ≤ mag := Nat.log2_self_le h0
    have hL2 : mag < 2 ^ (mag.log2 + 1) := Nat.lt_log2_self
    have hLt : (place : Int) + mag.log2 ≤ t := by
      have h1 : 2 ^ (mag.log2 + (place + 4000).toNat) ≤ 2 ^ (t + 4000).toNat := by
        rw [Nat.pow_add]
        exact Nat.le_trans (Nat.mul_le_mul_right _ hL1) h
      have h2 := (Nat.pow_le_pow_iff_right (show 1 < 2 by decide)).1 h1
      omega
    refine Nat.le_trans (Nat.min_le_left _ _) ?_
    generalize hL : mag.log2 = L at *
    by_cases hA : place + L < t
    · by_cases hB : -1074 ≤ place + L - 52
      · rw [Int.max_eq_left hB]
        have hk : Ieee.Toward.even.cut neg (mag <<< (place - (place + L - 52)).toNat) (place + L - 52 - place).toNat ≤ 2 ^ 53 := by
          apply cut_le
          rw [Nat.shiftLeft_eq, ← Nat.pow_add]
          refine Nat.le_trans (Nat.mul_le_mul_right _ (Nat.le_of_lt hL2)) ?_
          rw [← Nat.pow_add]
          exact Nat.pow_le_pow_right (by decide) (by omega)
        generalize Ieee.Toward.even.cut neg _ _ = q at hk ⊢
        omega
      · rw [Int.max_eq_right (by omega)]
        have hk : Ieee.Toward.even.cut neg (mag <<< (place - -1074).toNat) (-1074 - place).toNat ≤ 2 ^ 52 := by
          apply cut_le
          rw [Nat.shiftLeft_eq, ← Nat.pow_add]
          refine Nat.le_trans (Nat.mul_le_mul_right _ (Nat.le_of_lt hL2)) ?_
          rw [← Nat.pow_add]
          exact Nat.pow_le_pow_right (by decide) (by omega)
        generalize Ieee.Toward.even.cut neg _ _ = q at hk ⊢
        omega
    · have hm : mag = 2 ^ L := by
        have h1 : mag * 2 ^ (place + 4000).toNat ≤ 2 ^ L * 2 ^ (place + 4000).toNat := by
          rw [← Nat.pow_add]
          refine Nat.le_trans h (Nat.pow_le_pow_right (by decide) (by omega))
        have := Nat.le_of_mul_le_mul_right h1 (Nat.two_pow_pos _)
        omega
      rw [Int.max_eq_left (by omega)]
      have hk : Ieee.Toward.even.cut neg (mag <<< (place - (place + L - 52)).toNat) (place + L - 52 - place).toNat ≤ 2 ^ 52 := by
        apply cut_le
        rw [Nat.shiftLeft_eq, ← Nat.pow_add, hm, ← Nat.pow_add]
        exact Nat.pow_le_pow_right (by decide) (by omega)
      generalize Ieee.Toward.even.cut neg _ _ = q at hk ⊢
      omega

theorem near_low {neg : Bool} {mag : Nat} {place t : Int} (ht : -1022 ≤ t) (ht2 : t ≤ 1023) (h0 : mag ≠ 0) (h : t ≤ place + mag.log2) :
    ∃ rung, F.nearest neg mag place = F.word neg rung ∧ (t + 1023).toNat * 4503599627370496 ≤ rung ∧ rung ≤ 9218868437227405312 := by
  refine ⟨_, near_word h0, ?_, Nat.min_le_right _ _⟩
  have hL1 : 2 ^ mag.log2 ≤ mag := Nat.log2_self_le h0
  generalize hL : mag.log2 = L at *
  rw [Int.max_eq_left (by omega)]
  have hk : 2 ^ 52 ≤ Ieee.Toward.even.cut neg (mag <<< (place - (place + L - 52)).toNat) (place + L - 52 - place).toNat := by
    refine cut_ge ?_ (by decide)
    rw [Nat.shiftLeft_eq, ← Nat.pow_add]
    refine Nat.le_trans ?_ (Nat.mul_le_mul_right _ hL1)
    rw [← Nat.pow_add]
    exact Nat.pow_le_pow_right (by decide) (by omega)
  generalize Ieee.Toward.even.cut neg _ _ = q at hk ⊢
  omega

theorem read_word {s : Bool} {rung : Nat} (h : rung < 9218868437227405312) : F.read (F.word s rung) =
    if rung < 4503599627370496 then .number s rung (-1074) else .number s (4503599627370496 + rung % 4503599627370496) (-1074 + (rung / 4503599627370496 - 1 : Nat)) := by
  have e1 : F.word s rung % 9223372036854775808 = rung := by
    unfold Ieee.Format.word
    cases s
    · show rung % 9223372036854775808 = rung
      exact Nat.mod_eq_of_lt (by omega)
    · show (9223372036854775808 + rung) % 9223372036854775808 = rung
      omega
  have e2 : (F.word s rung / 9223372036854775808 % 2 == 1) = s := by
    unfold Ieee.Format.word
    cases s
    · show (rung / 9223372036854775808 % 2 == 1) = false
      rw [Nat.div_eq_of_lt (by omega)]
      rfl
    · show ((9223372036854775808 + rung) / 9223372036854775808 % 2 == 1) = true
      rw [show (9223372036854775808 + rung) / 9223372036854775808 = 1 by omega]
      rfl
  unfold Ieee.Format.read
  simp only [cBin, cLeast, cInf, cSign, e1, e2]
  by_cases hs : rung < 4503599627370496
  · rw [if_pos hs, if_pos hs]
  · rw [if_neg hs, if_neg hs, if_pos h]

/-- a number, not above 2^t -/
def Le (x : Nat) (t : Int) : Prop := ∃ s m i, F.read x = .number s m i ∧ -1074 ≤ i ∧ i ≤ 971 ∧ m < 2 ^ 53 ∧ m * 2 ^ (i + 4000).toNat ≤ 2 ^ (t + 4000).toNat

theorem read_le {s : Bool} {rung : Nat} {t : Int} (ht : -1022 ≤ t) (ht2 : t ≤ 1023) (h : rung ≤ (t + 1023).toNat * 4503599627370496) :
    ∃ m i, F.read (F.word s rung) = .number s m i ∧ -1074 ≤ i ∧ i ≤ 971 ∧ m < 2 ^ 53 ∧ m * 2 ^ (i + 4000).toNat ≤ 2 ^ (t + 4000).toNat := by
  have hr : rung < 9218868437227405312 := by omega
  rw [read_word hr]
  by_cases hs : rung < 4503599627370496
  · rw [if_pos hs]
    refine ⟨rung, -1074, rfl, by omega, by omega, by omega, ?_⟩
    refine Nat.le_trans (Nat.mul_le_mul_right _ (show rung ≤ 2 ^ 52 by omega)) ?_
    rw [← Nat.pow_add]
    exact Nat.pow_le_pow_right (by decide) (by omega)
  · rw [if_neg hs]
    refine ⟨_, _, rfl, by omega, by omega, by omega, ?_⟩
    rcases Nat.lt_or_ge (rung / 4503599627370496) (t + 1023).toNat with hlt | hge
    · refine Nat.le_trans (Nat.mul_le_mul_right _ (show 4503599627370496 + rung % 4503599627370496 ≤ 2 ^ 53 by omega)) ?_
      rw [← Nat.pow_add]
      exact Nat.pow_le_pow_right (by decide) (by omega)
    · have e : rung % 4503599627370496 = 0 := by omega
      rw [e]
      refine Nat.le_trans (Nat.mul_le_mul_right _ (show 4503599627370496 + 0 ≤ 2 ^ 52 by omega)) ?_
      rw [← Nat.pow_add]
      exact Nat.pow_le_pow_right (by decide) (by omega)
theorem near_le {neg : Bool} {mag : Nat} {place t : Int} (ht : -1022 ≤ t) (ht2 : t ≤ 1023) (hp : -4000 ≤ place) (h : mag * 2 ^ (place + 4000).toNat ≤ 2 ^ (t + 4000).toNat) : Le (F.nearest neg mag place) t := by
  obtain ⟨rung, e, hr⟩ := near_up (neg := neg) ht ht2 hp h
  obtain ⟨m, i, h1⟩ := read_le (s := neg) ht ht2 hr
  rw [e]
  exact ⟨neg, m, i, h1⟩
theorem Le.mono {x : Nat} {t u : Int} (h : Le x t) (hu : t ≤ u) : Le x u := by
  obtain ⟨s, m, i, h1, h2, h3, h4, h5⟩ := h
  exact ⟨s, m, i, h1, h2, h3, h4, Nat.le_trans h5 (Nat.pow_le_pow_right (by decide) (by omega))⟩

theorem shift_mul (m : Nat) {i base : Int} (h1 : base ≤ i) (h2 : -4000 ≤ base) : m <<< (i - base).toNat * 2 ^ (base + 4000).toNat = m * 2 ^ (i + 4000).toNat := by
  rw [Nat.shiftLeft_eq, Nat.mul_assoc, ← Nat.pow_add]
  congr 2
  omega
theorem signed_abs (s : Bool) (m u : Nat) : (Ieee.signed s m u).natAbs = m <<< u := by
  unfold Ieee.signed
  cases s
  · exact Int.natAbs_natCast _
  · exact (Int.natAbs_neg _).trans (Int.natAbs_natCast _)

theorem sum_le {s t : Bool} {m n : Nat} {i j a : Int} (ha : -1022 ≤ a) (ha2 : a + 1 ≤ 1023) (hi : -1074 ≤ i) (hj : -1074 ≤ j)
    (hm : m * 2 ^ (i + 4000).toNat ≤ 2 ^ (a + 4000).toNat) (hn : n * 2 ^ (j + 4000).toNat ≤ 2 ^ (a + 4000).toNat) :
    ∃ r, ((Ieee.Datum.number s m i).sum (.number t n j)).map F.write = some r ∧ Le r (a + 1) := by
  refine ⟨_, rfl, ?_⟩
  show Le (F.nearest _ _ _) _
  refine near_le (by omega) ha2 (by omega) ?_
  have hb1 : min i j ≤ i := by omega
  have hb2 : min i j ≤ j := by omega
  have hb : -4000 ≤ min i j := by omega
  have h1 : (Ieee.signed s m (i - min i j).toNat + Ieee.signed t n (j - min i j).toNat).natAbs ≤ m <<< (i - min i j).toNat + n <<< (j - min i j).toNat := by
    have := Int.natAbs_add_le (Ieee.signed s m (i - min i j).toNat) (Ieee.signed t n (j - min i j).toNat)
    rw [signed_abs, signed_abs] at this
    exact this
  refine Nat.le_trans (Nat.mul_le_mul_right _ h1) ?_
  rw [Nat.add_mul, shift_mul m hb1 hb, shift_mul n hb2 hb]
  have e : 2 ^ (a + 1 + 4000).toNat = 2 ^ (a + 4000).toNat + 2 ^ (a + 4000).toNat := by
    rw [show (a + 1 + 4000).toNat = (a + 4000).toNat + 1 by omega, Nat.pow_succ]
    omega
  omega
theorem Le.add {x y : Nat} {a : Int} (ha : -1022 ≤ a) (ha2 : a + 1 ≤ 1023) (hx : Le x a) (hy : Le y a) : ∃ r, F.add x y = some r ∧ Le r (a + 1) := by
  obtain ⟨s, m, i, h1, h2, _, _, h5⟩ := hx
  obtain ⟨t, n, j, g1, g2, _, _, g5⟩ := hy
  unfold Ieee.Format.add
  rw [h1, g1]
  exact sum_le ha ha2 h2 g2 h5 g5
theorem Le.sub {x y : Nat} {a : Int} (ha : -1022 ≤ a) (ha2 : a + 1 ≤ 1023) (hx : Le x a) (hy : Le y a) : ∃ r, F.sub x y = some r ∧ Le r (a + 1) := by
  obtain ⟨s, m, i, h1, h2, _, _, h5⟩ := hx
  obtain ⟨t, n, j, g1, g2, _, _, g5⟩ := hy
  unfold Ieee.Format.sub
  rw [h1, g1]
  exact sum_le ha ha2 h2 g2 h5 g5
theorem Le.mul {x y : Nat} {a b : Int} (ha : 0 ≤ a) (hb : 0 ≤ b) (hab : a + b ≤ 1023) (hx : Le x a) (hy : Le y b) : ∃ r, F.mul x y = some r ∧ Le r (a + b) := by
  obtain ⟨s, m, i, h1, h2, _, _, h5⟩ := hx
  obtain ⟨t, n, j, g1, g2, _, _, g5⟩ := hy
  unfold Ieee.Format.mul
  rw [h1, g1]
  refine ⟨_, rfl, ?_⟩
  show Le (F.nearest _ _ _) _
  refine near_le (by omega) hab (by omega) ?_
  have h := Nat.mul_le_mul h5 g5
  obtain ⟨Z, hZ⟩ : ∃ Z : Nat, Z = 4000 := ⟨_, rfl⟩
  have e1 : m * 2 ^ (i + 4000).toNat * (n * 2 ^ (j + 4000).toNat) = m * n * 2 ^ (i + j + 4000).toNat * 2 ^ Z := by
    rw [Nat.mul_mul_mul_comm, ← Nat.pow_add, Nat.mul_assoc (m * n), ← Nat.pow_add]
    congr 2
    omega
  have e2 : 2 ^ (a + 4000).toNat * 2 ^ (b + 4000).toNat = 2 ^ (a + b + 4000).toNat * 2 ^ Z := by
    rw [← Nat.pow_add, ← Nat.pow_add]
    congr 1
    omega
  rw [e1, e2] at h
  exact Nat.le_of_mul_le_mul_right h (Nat.two_pow_pos _)

/-- a divisor that is not small -/
theorem Le.div {x y : Nat} {a : Int} {t : Bool} {n : Nat} {j : Int} (ha : 0 ≤ a) (ha2 : a + 53 ≤ 1023) (hx : Le x a) (hy : F.read y = .number t n j) (hn : n ≠ 0) (hn2 : n < 2 ^ 53) (hj : -52 ≤ j) (hj2 : j ≤ 971) :
    ∃ r, F.div x y = some r ∧ Le r (a + 53) := by
  obtain ⟨s, m, i, h1, h2, h3, _, h5⟩ := hx
  unfold Ieee.Format.div
  rw [h1, hy, c52]
  simp only [Ieee.Datum.quotient, hn, if_false]
  refine ⟨_, rfl, ?_⟩
  show Le (F.nearest _ _ _) _
  have hlog : n.log2 ≤ 52 := by
    have := (Nat.log2_lt hn).2 hn2
    omega
  generalize hM : 52 + 2 + n.log2 - m.log2 = more
  have hmore : more ≤ 106 := by omega
  refine near_le (by omega) ha2 (by omega) ?_
  by_cases hm : m = 0
  · subst hm
    simp
  · have hia : i ≤ a := by
      have h : 2 ^ (i + 4000).toNat ≤ 2 ^ (a + 4000).toNat := Nat.le_trans (by
        have := Nat.mul_le_mul_right (2 ^ (i + 4000).toNat) (show 1 ≤ m by omega)
        rwa [Nat.one_mul] at this) h5
      have h := (Nat.pow_le_pow_iff_right (show 1 < 2 by decide)).1 h
      omega
    have hmag : 2 * (m <<< more / n) + (m <<< more % n != 0).toNat ≤ 2 * (m <<< more) + 1 := by
      have h1 : m <<< more / n ≤ m <<< more := Nat.div_le_self _ _
      have h2 : ∀ b : Bool, b.toNat ≤ 1 := fun b => by cases b <;> decide
      have := h2 (m <<< more % n != 0)
      omega
    refine Nat.le_trans (Nat.mul_le_mul_right _ hmag) ?_
    have e1 : (2 * (m <<< more) + 1) * 2 ^ (i - j - (more : Int) - 1 + 4000).toNat = m * 2 ^ (i - j + 4000).toNat + 2 ^ (i - j - (more : Int) - 1 + 4000).toNat := by
      rw [Nat.add_mul, Nat.one_mul, Nat.shiftLeft_eq]
      congr 1
      rw [Nat.mul_comm 2, Nat.mul_assoc, Nat.mul_assoc, ← Nat.pow_succ', ← Nat.pow_add]
      congr 2
      omega
    rw [e1]
    have e2 : m * 2 ^ (i - j + 4000).toNat ≤ 2 ^ (a + 52 + 4000).toNat := by
      have h6 : m * 2 ^ (i - j + 4000).toNat ≤ m * 2 ^ (i + 4000).toNat * 2 ^ 52 := by
        rw [Nat.mul_assoc, ← Nat.pow_add]
        exact Nat.mul_le_mul_left _ (Nat.pow_le_pow_right (by decide) (by omega))
      refine Nat.le_trans h6 (Nat.le_trans (Nat.mul_le_mul_right _ h5) ?_)
      rw [← Nat.pow_add]
      exact Nat.pow_le_pow_right (by decide) (by omega)
    have e3 : 2 ^ (i - j - (more : Int) - 1 + 4000).toNat ≤ 2 ^ (a + 52 + 4000).toNat := Nat.pow_le_pow_right (by decide) (by omega)
    have e4 : 2 ^ (a + 53 + 4000).toNat = 2 ^ (a + 52 + 4000).toNat + 2 ^ (a + 52 + 4000).toNat := by
      rw [show (a + 53 + 4000).toNat = (a + 52 + 4000).toNat + 1 by omega, Nat.pow_succ]
      omega
    omega

theorem le_const {c : Nat} {t : Int} (ht : -1022 ≤ t) (ht2 : t ≤ 1023) (h : c ≤ (t + 1023).toNat * 4503599627370496) : Le c t := by
  obtain ⟨m, i, h1⟩ := read_le (s := false) ht ht2 h
  exact ⟨false, m, i, h1⟩

theorem read1 : F.read 4607182418800017408 = .number false 4503599627370496 (-52) := by decide +kernel
theorem read2 : F.read 4611686018427387904 = .number false 4503599627370496 (-51) := by decide +kernel

/-- x*c for x below 1, c 1 or 2: not negative, at most 2 -/
theorem f1_ok {x c : Nat} (h : x ≤ 4607182418800017408) (hc : c ≤ 4611686018427387904) : ∃ r m i, F.mul x c = some r ∧ F.read r = .number false m i ∧ -1074 ≤ i ∧ m * 2 ^ (i + 4000).toNat ≤ 2 ^ (1 + 4000 : Int).toNat := by
  obtain ⟨m, i, h1, h2, _, _, h5⟩ := read_le (s := false) (t := 0) (by omega) (by omega) (rung := x) (Nat.le_trans h (by decide))
  obtain ⟨n, j, g1, g2, _, _, g5⟩ := read_le (s := false) (t := 1) (by omega) (by omega) (rung := c) (Nat.le_trans hc (by decide))
  have h1' : F.read x = .number false m i := h1
  have g1' : F.read c = .number false n j := g1
  unfold Ieee.Format.mul
  rw [h1', g1']
  have hb : m * n * 2 ^ (i + j + 4000).toNat ≤ 2 ^ (1 + 4000 : Int).toNat := by
    have h := Nat.mul_le_mul h5 g5
    obtain ⟨Z, hZ⟩ : ∃ Z : Nat, Z = 4000 := ⟨_, rfl⟩
    have e1 : m * 2 ^ (i + 4000).toNat * (n * 2 ^ (j + 4000).toNat) = m * n * 2 ^ (i + j + 4000).toNat * 2 ^ Z := by
      rw [Nat.mul_mul_mul_comm, ← Nat.pow_add, Nat.mul_assoc (m * n), ← Nat.pow_add]
      congr 2
      omega
    have e2 : 2 ^ (0 + 4000 : Int).toNat * 2 ^ (1 + 4000 : Int).toNat = 2 ^ (1 + 4000 : Int).toNat * 2 ^ Z := by
      rw [← Nat.pow_add, ← Nat.pow_add]
      congr 1
      omega
    rw [e1, e2] at h
    exact Nat.le_of_mul_le_mul_right h (Nat.two_pow_pos _)
  obtain ⟨rung, e, hr⟩ := near_up (neg := false) (by omega) (by omega) (by omega) hb
  obtain ⟨m', i', k1, k2, _, _, k5⟩ := read_le (s := false) (by omega) (by omega) hr
  refine ⟨F.nearest false (m * n) (i + j), m', i', rfl, ?_, k2, k5⟩
  rw [e]
  exact k1
/-- what is left when 1 is drawn off: at most 1 either way -/
theorem f_ok {x m : Nat} {i : Int} (h : F.read x = .number false m i) (hi : -1074 ≤ i) (hm : m * 2 ^ (i + 4000).toNat ≤ 2 ^ (1 + 4000 : Int).toNat) : ∃ r, F.sub x 4607182418800017408 = some r ∧ Le r 0 := by
  unfold Ieee.Format.sub
  rw [h, read1]
  refine ⟨_, rfl, ?_⟩
  show Le (F.nearest _ _ _) _
  refine near_le (by omega) (by omega) (by omega) ?_
  have hb1 : min i (-52) ≤ i := by omega
  have hb2 : min i (-52) ≤ -52 := by omega
  have hb : -4000 ≤ min i (-52) := by omega
  have s1 := shift_mul m hb1 hb
  have s2 := shift_mul 4503599627370496 hb2 hb
  have e1 : 4503599627370496 * 2 ^ (-52 + 4000 : Int).toNat = 2 ^ (0 + 4000 : Int).toNat := by
    rw [show 4503599627370496 = 2 ^ 52 from rfl, ← Nat.pow_add]
    congr 1
  have e2 : 2 ^ (1 + 4000 : Int).toNat = 2 ^ (0 + 4000 : Int).toNat + 2 ^ (0 + 4000 : Int).toNat := by
    rw [show (1 + 4000 : Int).toNat = (0 + 4000 : Int).toNat + 1 by omega, Nat.pow_succ]
    omega
  rw [e1] at s2
  have a1 : (Ieee.signed false m (i - min i (-52)).toNat + Ieee.signed (!false) 4503599627370496 (-52 - min i (-52)).toNat) = ((m <<< (i - min i (-52)).toNat : Nat) : Int) - ((4503599627370496 <<< (-52 - min i (-52)).toNat : Nat) : Int) := rfl
  rw [a1]
  generalize m <<< (i - min i (-52)).toNat = A at s1 ⊢
  generalize 4503599627370496 <<< (-52 - min i (-52)).toNat = B at s2 ⊢
  generalize 2 ^ (0 + 4000 : Int).toNat = T at *
  generalize 2 ^ (min i (-52) + 4000).toNat = U at *
  generalize 2 ^ (1 + 4000 : Int).toNat = T2 at *
  rcases Nat.lt_or_ge A B with hl | hg
  · rw [show ((A : Int) - (B : Int)).natAbs = B - A by omega, Nat.sub_mul]
    omega
  · rw [show ((A : Int) - (B : Int)).natAbs = A - B by omega, Nat.sub_mul]
    omega
theorem sum_eq {s t neg : Bool} {m n : Nat} {i j tot : Int} (h : tot = Ieee.signed s m (i - min i j).toNat + Ieee.signed t n (j - min i j).toNat) (hneg : (if tot = 0 then s && t else decide (tot < 0)) = neg) :
    ((Ieee.Datum.number s m i).sum (.number t n j)).map F.write = some (F.nearest neg tot.natAbs (min i j)) := by
  subst h hneg
  rfl
theorem q_low {q : Nat} (h : 1023 ≤ q) : (-52 : Int) ≤ -1074 + ((q - 1 : Nat) : Int) := by omega
theorem q_high {q : Nat} (h : q < 1026) : (-1074 : Int) + ((q - 1 : Nat) : Int) ≤ 971 := by omega
/-- 2 + f: at least 1 -/
theorem d_ok {f : Nat} (h : Le f 0) : ∃ r t n j, F.add 4611686018427387904 f = some r ∧ F.read r = .number t n j ∧ n ≠ 0 ∧ n < 2 ^ 53 ∧ -52 ≤ j ∧ j ≤ 971 := by
  obtain ⟨s, m, i, h1, h2, h3, h4, h5⟩ := h
  unfold Ieee.Format.add
  rw [read2, h1]
  have hb1 : min (-51) i ≤ i := by omega
  have hb2 : min (-51) i ≤ -51 := by omega
  have hb : -4000 ≤ min (-51) i := by omega
  have s1 := shift_mul m hb1 hb
  have s2 := shift_mul 4503599627370496 hb2 hb
  have e1 : 4503599627370496 * 2 ^ (-51 + 4000 : Int).toNat = 2 ^ (0 + 4000 : Int).toNat + 2 ^ (0 + 4000 : Int).toNat := by
    rw [show 4503599627370496 = 2 ^ 52 from rfl, ← Nat.pow_add, show 52 + (-51 + 4000 : Int).toNat = (0 + 4000 : Int).toNat + 1 by omega, Nat.pow_succ]
    omega
  rw [e1] at s2
  obtain ⟨tot, htot⟩ : ∃ tot, tot = (Ieee.signed false 4503599627370496 (-51 - min (-51) i).toNat + Ieee.signed s m (i - min (-51) i).toNat) := ⟨_, rfl⟩
  have hA : (Ieee.signed s m (i - min (-51) i).toNat).natAbs = m <<< (i - min (-51) i).toNat := signed_abs _ _ _
  have hB : Ieee.signed false 4503599627370496 (-51 - min (-51) i).toNat = ((4503599627370496 <<< (-51 - min (-51) i).toNat : Nat) : Int) := rfl
  have hT0 : 0 < 2 ^ (0 + 4000 : Int).toNat := Nat.two_pow_pos _
  have hbase : 2 ^ (0 + 4000 : Int).toNat ≤ tot.natAbs * 2 ^ (min (-51) i + 4000).toNat ∧ tot.natAbs * 2 ^ (min (-51) i + 4000).toNat ≤ 3 * 2 ^ (0 + 4000 : Int).toNat := by
    rw [htot, hB]
    generalize Ieee.signed s m (i - min (-51) i).toNat = C at hA ⊢
    rw [← hA] at s1
    generalize 4503599627370496 <<< (-51 - min (-51) i).toNat = B at s2 ⊢
    generalize 2 ^ (0 + 4000 : Int).toNat = T at *
    generalize 2 ^ (min (-51) i + 4000).toNat = U at *
    have k1 : B ≤ ((B : Int) + C).natAbs + C.natAbs := by omega
    have k2 : ((B : Int) + C).natAbs ≤ B + C.natAbs := by omega
    have k1' := Nat.mul_le_mul_right U k1
    have k2' := Nat.mul_le_mul_right U k2
    rw [Nat.add_mul] at k1' k2'
    omega
  obtain ⟨lo, hi⟩ := hbase
  have hne : tot.natAbs ≠ 0 := by
    intro e
    rw [e, Nat.zero_mul] at lo
    omega
  have hlog : (0 : Int) ≤ min (-51) i + tot.natAbs.log2 := by
    have hL2 : tot.natAbs < 2 ^ (tot.natAbs.log2 + 1) := Nat.lt_log2_self
    have k := Nat.le_trans lo (Nat.mul_le_mul_right _ (Nat.le_of_lt hL2))
    have kl : 2 ^ (0 + 4000 : Int).toNat < 2 ^ (tot.natAbs.log2 + 1) * 2 ^ (min (-51) i + 4000).toNat := Nat.lt_of_le_of_lt lo (Nat.mul_lt_mul_of_pos_right hL2 (Nat.two_pow_pos _))
    rw [← Nat.pow_add] at kl
    have := (Nat.pow_lt_pow_iff_right (show 1 < 2 by decide)).1 kl
    omega
  have hup : tot.natAbs * 2 ^ (min (-51) i + 4000).toNat ≤ 2 ^ (2 + 4000 : Int).toNat := by
    rw [show (2 + 4000 : Int).toNat = (0 + 4000 : Int).toNat + 2 by omega, Nat.pow_add]
    omega
  generalize hneg : (if tot = 0 then false && s else decide (tot < 0)) = neg
  obtain ⟨r1, w1, u1⟩ := near_up (neg := neg) (by omega) (by omega) (by omega) hup
  obtain ⟨r2, w2, u2, u3⟩ := near_low (neg := neg) (t := 0) (by omega) (by omega) hne hlog
  have er : r1 = r2 := by
    have e := w1.symm.trans w2
    unfold Ieee.Format.word at e
    cases neg
    · exact e
    · exact Nat.add_left_cancel e
  subst er
  have hr : r1 < 9218868437227405312 := by omega
  have hread := read_word (s := neg) hr
  rw [if_neg (by omega)] at hread
  refine ⟨F.nearest neg tot.natAbs (min (-51) i), neg, 4503599627370496 + r1 % 4503599627370496, -1074 + ((r1 / 4503599627370496 - 1 : Nat) : Int), ?_, ?_, ?_, ?_, ?_, ?_⟩
  · exact sum_eq htot hneg
  · rw [w1]; exact hread
  · exact Nat.ne_of_gt (Nat.add_pos_left (by decide) _)
  · exact Nat.lt_of_lt_of_le (Nat.add_lt_add_left (Nat.mod_lt _ (by decide)) _) (by decide)
  · exact q_low ((Nat.le_div_iff_mul_le (by decide)).2 u2)
  · exact q_high ((Nat.div_lt_iff_lt_mul (by decide)).2 (Nat.lt_of_le_of_lt u1 (by decide)))
end Go.Proofs.Qxb6620878a
