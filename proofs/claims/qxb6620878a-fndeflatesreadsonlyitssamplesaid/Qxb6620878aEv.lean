/- The even alphabet: its counts, and the sum in the floats. -/
import Derived.Test.Qxb6620878aDe
namespace Go.Proofs.Qxb6620878a

def z0 : Nat → Nat := fun _ => 0

theorem win_add (f C : Nat → Nat) (s : Nat) : ∀ j u, win f C s j u = C u + win f z0 s j u
  | 0, u => by simp [win, z0]
  | j + 1, u => by
    have := win_add f C s j u
    simp only [win, inc]
    split <;> omega
theorem win_split (f C : Nat → Nat) (s a : Nat) : ∀ b, win f C s (a + b) = win f (win f C s a) (s + a) b
  | 0 => rfl
  | b + 1 => by
    show inc (win f C s (a + b)) (f (s + (a + b))) = inc (win f (win f C s a) (s + a) b) (f (s + a + b))
    rw [win_split f C s a b, Nat.add_assoc]
/-- a window one further, of a function that comes round with period K -/
theorem win_shift {f : Nat → Nat} {K : Nat} (hf : ∀ i, f (i + K) = f i) (s u : Nat) : win f z0 (s + 1) K u = win f z0 s K u := by
  have h1 : win f z0 s (1 + K) u = win f z0 s 1 u + win f z0 (s + 1) K u := by
    rw [win_split, win_add]
  have h2 : win f z0 s (K + 1) u = win f z0 s K u + win f z0 (s + K) 1 u := by
    rw [win_split, win_add]
  have h3 : win f z0 (s + K) 1 u = win f z0 s 1 u := by
    simp only [win, Nat.add_zero, hf]
  rw [Nat.add_comm 1 K] at h1
  omega
theorem win_period {f : Nat → Nat} {K : Nat} (hf : ∀ i, f (i + K) = f i) : ∀ s u, win f z0 s K u = win f z0 0 K u
  | 0, _ => rfl
  | s + 1, u => by rw [win_shift hf, win_period hf s u]
theorem win_mul {f : Nat → Nat} {K : Nat} (hf : ∀ i, f (i + K) = f i) (s u : Nat) : ∀ m, win f z0 s (K * m) u = m * win f z0 0 K u
  | 0 => by simp [win, z0]
  | m + 1 => by
    rw [Nat.mul_succ, win_split, win_add, win_mul hf s u m, win_period hf (s + K * m) u, Nat.succ_mul]
theorem cnt_period {f : Nat → Nat} {K m : Nat} (hf : ∀ i, f (i + K) = f i) (hK : K * m = 1024) (n u : Nat) : ∀ i, cnt f n i u = i * (m * win f z0 0 K u)
  | 0 => by simp [cnt]
  | i + 1 => by
    rw [cnt, win_add, cnt_period hf hK n u i, ← hK, win_mul hf, Nat.succ_mul]

/-- each value is met at most once -/
theorem win_once {f : Nat → Nat} {K : Nat} (hi : ∀ a b, a < K → b < K → f a = f b → a = b) : ∀ j, j ≤ K → ∀ u, win f z0 0 j u ≤ 1 ∧ (win f z0 0 j u = 1 → ∃ a, a < j ∧ f a = u)
  | 0, _, u => ⟨by simp [win, z0], by simp [win, z0]⟩
  | j + 1, hj, u => by
    obtain ⟨h1, h2⟩ := win_once hi j (by omega) u
    simp only [win, inc, Nat.zero_add]
    by_cases hu : u = f j
    · rw [if_pos hu]
      have h0 : win f z0 0 j u = 0 := by
        rcases Nat.eq_zero_or_pos (win f z0 0 j u) with h | h
        · exact h
        · obtain ⟨a, ha, e⟩ := h2 (by omega)
          have := hi a j (by omega) (by omega) (e.trans hu)
          omega
      rw [h0]
      exact ⟨by omega, fun _ => ⟨j, by omega, hu.symm⟩⟩
    · rw [if_neg hu]
      refine ⟨h1, fun h => ?_⟩
      obtain ⟨a, ha, e⟩ := h2 h
      exact ⟨a, by omega, e⟩

/-- the sum of h below v -/
def below (h : Nat → Nat) : Nat → Nat
  | 0 => 0
  | v + 1 => below h v + h v
theorem below_inc (h : Nat → Nat) (a : Nat) : ∀ v, below (inc h a) v = below h v + if a < v then 1 else 0
  | 0 => by simp [below]
  | v + 1 => by
    simp only [below, below_inc h a v, inc]
    by_cases e : v = a
    · subst e; simp; omega
    · by_cases l : a < v
      · rw [if_pos l, if_neg e, if_pos (by omega)]; omega
      · rw [if_neg l, if_neg e, if_neg (by omega)]; omega
theorem below_win {f : Nat → Nat} (hf : ∀ i, f i < 256) (s : Nat) : ∀ j, below (win f z0 s j) 256 = j
  | 0 => by
    have : ∀ v, below z0 v = 0 := by
      intro v
      induction v with
      | zero => rfl
      | succ v ih => simp [below, ih, z0]
    exact this 256
  | j + 1 => by
    show below (inc _ _) 256 = _
    rw [below_inc, below_win hf s j, if_pos (hf _)]

/-- i times the same term -/
def subN (x : Nat) : Nat → Nat
  | 0 => 0
  | i + 1 => (F.sub (subN x i) x).getD 0
theorem entr_even {C h : Nat → Nat} {x m : Nat} (hm : 0 < m) (h1 : ∀ u, h u ≤ 1) (hC : ∀ u, C u = m * h u) : ∀ v, entr (fun _ => x) C v = subN x (below h v)
  | 0 => rfl
  | v + 1 => by
    simp only [entr, below]
    rw [entr_even hm h1 hC v, hC v]
    have := h1 v
    have hv : h v = 0 ∨ h v = 1 := by omega
    rcases hv with e | e
    · rw [e, if_neg (by omega)]; rfl
    · rw [e, if_pos (by omega)]; rfl

/-- the same by forced steps -/
def subL (x : Nat) : Nat → Nat → Option Nat
  | 0, acc => some acc
  | i + 1, acc => bnd (subF acc x) (subL x i)
theorem subL_ok {x : Nat} : ∀ i j r, subL x i (subN x j) = some r → (∀ t, j ≤ t → t < j + i → ∃ y, F.sub (subN x t) x = some y) ∧ subN x (j + i) = r
  | 0, j, r, h => ⟨fun t _ _ => by omega, by simpa [subL] using h⟩
  | i + 1, j, r, h => by
    obtain ⟨y, hy, hr⟩ := bnd_some h
    have hs := subF_ok hy
    have e : y = subN x (j + 1) := by simp [subN, hs]
    rw [e] at hr
    obtain ⟨h1, h2⟩ := subL_ok i (j + 1) r hr
    refine ⟨fun t ht1 ht2 => ?_, by rw [← h2]; congr 1; omega⟩
    by_cases ht : t = j
    · subst ht; exact ⟨y, hs⟩
    · exact h1 t (by omega) (by omega)

/-- the powers of two, closed -/
def pK (k : Nat) : Nat := (1023 - k) * 4503599627370496
def lK (k : Nat) : Nat := floatOfInt .f64 (exB (pK k) - 1)
def qK (k : Nat) : Nat := (mulF (pK k) (lK k)).getD 0
theorem kDiv : ∀ k, k < 9 → F.div (floatOfInt .f64 ((2 ^ (13 - k) : Nat) : Int)) 4665729213955833856 = some (pK k) := by decide +kernel
theorem kMul : ∀ k, k < 9 → mulF (pK k) (lK k) = some (qK k) := by decide +kernel
theorem kNrm : ∀ k, k < 9 → 4503599627370496 ≤ pK k ∧ pK k < 9218868437227405312 ∧ frB (pK k) = 4602678819172646912 := by decide +kernel
theorem kSum : ∀ k, k < 9 → ∃ r, subL (qK k) (2 ^ k) 0 = some r ∧ (F.order r 4620636922686786765 == some .lt) = decide (k < 8) := by
  have h : ∀ k, k < 9 → (match subL (qK k) (2 ^ k) 0 with | some r => (F.order r 4620636922686786765 == some .lt) == decide (k < 8) | none => false) = true := by decide +kernel
  intro k hk
  have := h k hk
  split at this
  · rename_i r e
    exact ⟨r, e, by simpa using this⟩
  · cases this

theorem pow_parts {k : Nat} (hk : k < 9) : 2 ^ k * 2 ^ (10 - k) = 1024 ∧ 8 * 2 ^ (10 - k) = 2 ^ (13 - k) := by
  rw [← Nat.pow_add, show k + (10 - k) = 10 by omega, show 13 - k = 3 + (10 - k) by omega, Nat.pow_add]
  exact ⟨rfl, rfl⟩

theorem even_law {f : Nat → Nat} {k : Nat} (hk : k < 9) (hf : ∀ i, f (i + 2 ^ k) = f i) (hs : ∀ i, f i < 256) (hi : ∀ a b, a < 2 ^ k → b < 2 ^ k → f a = f b → a = b) (n : Nat) :
    Terms (fun _ => qK k) (cnt f n 8) ∧ (F.order (entr (fun _ => qK k) (cnt f n 8) 256) 4620636922686786765 == some .lt) = decide (k < 8) := by
  obtain ⟨hp1, hp2⟩ := pow_parts hk
  have h1 : ∀ u, win f z0 0 (2 ^ k) u ≤ 1 := fun u => (win_once hi _ (Nat.le_refl _) u).1
  have hC : ∀ u, cnt f n 8 u = 2 ^ (13 - k) * win f z0 0 (2 ^ k) u := fun u => by
    rw [cnt_period hf hp1 n u 8, ← Nat.mul_assoc, hp2]
  have hm : 0 < 2 ^ (13 - k) := Nat.two_pow_pos _
  have hE := entr_even (x := qK k) hm h1 hC
  have hb : below (win f z0 0 (2 ^ k)) 256 = 2 ^ k := below_win hs 0 _
  obtain ⟨r, hr, ho⟩ := kSum k hk
  obtain ⟨g1, g2⟩ := subL_ok (2 ^ k) 0 r hr
  rw [Nat.zero_add] at g2
  have hmono : ∀ v, v ≤ 256 → below (win f z0 0 (2 ^ k)) v ≤ 2 ^ k := by
    have : ∀ v d, v + d = 256 → below (win f z0 0 (2 ^ k)) v ≤ 2 ^ k := by
      intro v d
      induction d generalizing v with
      | zero => intro e; rw [show v = 256 by omega, hb]; exact Nat.le_refl _
      | succ d ih =>
        intro e
        have := ih (v + 1) (by omega)
        simp only [below] at this
        omega
    intro v hv
    exact this v (256 - v) (by omega)
  refine ⟨⟨fun v hv hpos => ?_, fun v hv hpos => ?_⟩, ?_⟩
  · obtain ⟨n1, n2, n3⟩ := kNrm k hk
    have hv1 : cnt f n 8 v = 2 ^ (13 - k) := by
      have := h1 v
      have e := hC v
      have : win f z0 0 (2 ^ k) v = 0 ∨ win f z0 0 (2 ^ k) v = 1 := by omega
      rcases this with h | h
      · rw [h, Nat.mul_zero] at e; omega
      · rw [h, Nat.mul_one] at e; exact e
    exact ⟨pK k, lK k, by rw [hv1]; exact kDiv k hk, fun w => Log2_walk (fun w => log2_half ⟨n1, n2⟩ n3 w) w, mulF_ok (kMul k hk)⟩
  · rw [hE v]
    have hlt : below (win f z0 0 (2 ^ k)) v < 2 ^ k := by
      have := hmono (v + 1) (by omega)
      simp only [below] at this
      have e := hC v
      rcases Nat.eq_zero_or_pos (win f z0 0 (2 ^ k) v) with h | h
      · rw [h, Nat.mul_zero] at e; omega
      · omega
    exact g1 _ (Nat.zero_le _) (by omega)
  · rw [hE 256, hb, g2, ho]

/-- the alphabet itself -/
def evF (K O A : Nat) (i : Nat) : Nat := (i % K * O + A) % 256
theorem inv_odd : ∀ O, O < 256 → O % 2 = 1 → ∃ I, I < 256 ∧ O * I % 256 = 1 := by decide +kernel
theorem evF_inj {k O A : Nat} (hk : k < 9) (hO : O < 256) (ho : O % 2 = 1) (a b : Nat) (ha : a < 2 ^ k) (hb : b < 2 ^ k) (h : evF (2 ^ k) O A a = evF (2 ^ k) O A b) : a = b := by
  have hK : 2 ^ k ≤ 2 ^ 8 := Nat.pow_le_pow_right (by decide) (by omega)
  unfold evF at h
  rw [Nat.mod_eq_of_lt ha, Nat.mod_eq_of_lt hb] at h
  obtain ⟨I, _, hI⟩ := inv_odd O hO ho
  have h2 : a * O % 256 = b * O % 256 := by omega
  have h3 : a * O * I % 256 = b * O * I % 256 := by rw [Nat.mul_mod, h2, ← Nat.mul_mod]
  rw [Nat.mul_assoc, Nat.mul_assoc, Nat.mul_mod, hI, Nat.mul_mod b, hI] at h3
  omega
theorem evF_period (k O A i : Nat) : evF (2 ^ k) O A (i + 2 ^ k) = evF (2 ^ k) O A i := by
  simp [evF]
end Go.Proofs.Qxb6620878a
