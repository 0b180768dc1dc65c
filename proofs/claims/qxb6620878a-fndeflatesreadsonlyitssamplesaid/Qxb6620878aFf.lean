/- The operations on doubles once more, each intermediate number forced to a numeral, so that the kernel reckons each once; and that they are the model's own. -/
import Derived.Laws.FloatArith
import GoSem.Extern.MathLog
namespace Go.Proofs.Qxb6620878a

abbrev F : Ieee.Format := FloatKind.f64.format

def frc {α : Type} (n : Nat) (k : Nat → α) : α := match n with | 0 => k 0 | m + 1 => k (m + 1)
theorem frc_eq {α : Type} (n : Nat) (k : Nat → α) : frc n k = k n := by cases n <;> rfl
def frcI {α : Type} (i : Int) (k : Int → α) : α := match i with | .ofNat n => frc n (fun n => k (.ofNat n)) | .negSucc n => frc n (fun n => k (.negSucc n))
theorem frcI_eq {α : Type} (i : Int) (k : Int → α) : frcI i k = k i := by cases i <;> simp [frcI, frc_eq]

theorem c52 : F.fractionBits = 52 := rfl
theorem cLeast : F.leastPlace = -1074 := rfl
theorem cBin : F.binade = 4503599627370496 := rfl
theorem cInf : F.infRung = 9218868437227405312 := rfl
theorem cSign : F.signWeight = 9223372036854775808 := rfl

def wordF (neg : Bool) (rung : Nat) : Nat := if neg then 9223372036854775808 + rung else rung
theorem wordF_eq (neg : Bool) (rung : Nat) : wordF neg rung = F.word neg rung := rfl

def nearF (neg : Bool) (mag : Nat) (place : Int) : Nat :=
  if mag = 0 then wordF neg 0 else
  frcI (max (place + mag.log2 - 52) (-1074)) fun last =>
  frc (mag <<< (place - last).toNat) fun n =>
  frc (1 <<< min (last - place).toNat (n.log2 + 2)) fun gap =>
  frc (n / gap) fun low =>
  frc (n % gap) fun rest =>
  wordF neg (min ((last - (-1074)).toNat * 4503599627370496 + (low + (gap < 2 * rest || (gap == 2 * rest && low % 2 == 1)).toNat)) 9218868437227405312)
theorem nearF_eq (neg : Bool) (mag : Nat) (place : Int) : nearF neg mag place = F.nearest neg mag place := by
  simp only [nearF, frcI_eq, frc_eq, Ieee.Format.nearest, Ieee.Toward.cut, wordF_eq]
  rfl

/-- a number's word, read into its parts; 'none': it is no number -/
def readF {α : Type} (x : Nat) (no : α) (k : Bool → Nat → Int → α) : α :=
  frc (x % 9223372036854775808) fun rung =>
  if rung < 4503599627370496 then k (x / 9223372036854775808 % 2 == 1) rung (-1074)
  else if rung < 9218868437227405312 then frc (4503599627370496 + rung % 4503599627370496) fun m => frcI (-1074 + (rung / 4503599627370496 - 1 : Nat)) fun p => k (x / 9223372036854775808 % 2 == 1) m p
  else no

theorem readF_eq {α : Type} (x : Nat) (no : α) (k : Bool → Nat → Int → α) : readF x no k = match F.read x with | .number s m i => k s m i | _ => no := by
  unfold readF Ieee.Format.read
  simp only [frc_eq, frcI_eq, cBin, cLeast, cInf, cSign]
  by_cases h1 : x % 9223372036854775808 < 4503599627370496
  · simp only [h1, if_true]
  · by_cases h2 : x % 9223372036854775808 < 9218868437227405312
    · simp only [h1, h2, if_true, if_false]
    · simp only [h1, h2, if_false]
      by_cases h3 : x % 9223372036854775808 = 9218868437227405312
      · simp only [h3, if_true]
      · simp only [h3, if_false]

/-- the sum of two numbers -/
def addF (x y : Nat) : Option Nat :=
  readF x none fun s m i => readF y none fun t n j =>
  frcI (min i j) fun base =>
  frcI (Ieee.signed s m (i - base).toNat + Ieee.signed t n (j - base).toNat) fun total =>
  frc total.natAbs fun mag =>
  some (nearF (if total = 0 then s && t else total < 0) mag base)
def subF (x y : Nat) : Option Nat :=
  readF x none fun s m i => readF y none fun t n j =>
  frcI (min i j) fun base =>
  frcI (Ieee.signed s m (i - base).toNat + Ieee.signed (!t) n (j - base).toNat) fun total =>
  frc total.natAbs fun mag =>
  some (nearF (if total = 0 then s && !t else total < 0) mag base)
def mulF (x y : Nat) : Option Nat :=
  readF x none fun s m i => readF y none fun t n j =>
  frc (m * n) fun mag => frcI (i + j) fun p => some (nearF (s ^^ t) mag p)
def divF (x y : Nat) : Option Nat :=
  readF x none fun s m i => readF y none fun t n j =>
  if n = 0 then none else
  frc (52 + 2 + n.log2 - m.log2) fun more =>
  frc (m <<< more) fun dividend =>
  frc (2 * (dividend / n) + (dividend % n != 0).toNat) fun mag => frcI (i - j - more - 1) fun p => some (nearF (s ^^ t) mag p)

/-- where they give something, it is what the model gives -/
theorem addF_ok {x y r : Nat} (h : addF x y = some r) : F.add x y = some r := by
  unfold addF at h
  simp only [readF_eq, frcI_eq, frc_eq, nearF_eq] at h
  unfold Ieee.Format.add
  split at h
  · rename_i s m i e
    split at h
    · rename_i t n j e2
      rw [e, e2]
      exact h
    · cases h
  · cases h
theorem subF_ok {x y r : Nat} (h : subF x y = some r) : F.sub x y = some r := by
  unfold subF at h
  simp only [readF_eq, frcI_eq, frc_eq, nearF_eq] at h
  unfold Ieee.Format.sub
  split at h
  · rename_i s m i e
    split at h
    · rename_i t n j e2
      rw [e, e2]
      exact h
    · cases h
  · cases h
theorem mulF_ok {x y r : Nat} (h : mulF x y = some r) : F.mul x y = some r := by
  unfold mulF at h
  simp only [readF_eq, frcI_eq, frc_eq, nearF_eq] at h
  unfold Ieee.Format.mul
  split at h
  · rename_i s m i e
    split at h
    · rename_i t n j e2
      rw [e, e2]
      exact h
    · cases h
  · cases h
theorem divF_ok {x y r : Nat} (h : divF x y = some r) : F.div x y = some r := by
  unfold divF at h
  simp only [readF_eq, frcI_eq, frc_eq, nearF_eq] at h
  unfold Ieee.Format.div
  split at h
  · rename_i s m i e
    split at h
    · rename_i t n j e2
      rw [e, e2]
      split at h
      · cases h
      · rename_i hn
        simp only [Ieee.Datum.quotient, hn, if_false]
        exact h
    · cases h
  · cases h

/-- bind, the number forced -/
def bnd (o : Option Nat) (k : Nat → Option Nat) : Option Nat := match o with | none => none | some n => frc n k
theorem bnd_some {o : Option Nat} {k : Nat → Option Nat} {r : Nat} (h : bnd o k = some r) : ∃ n, o = some n ∧ k n = some r := by
  cases o with
  | none => cases h
  | some n => exact ⟨n, rfl, by simpa [bnd, frc_eq] using h⟩

end Go.Proofs.Qxb6620878a
