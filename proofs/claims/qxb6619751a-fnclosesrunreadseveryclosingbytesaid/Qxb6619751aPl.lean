/- FnClosesRunReadsEveryClosingByte: the plain side: bytes and counts, no Go in sight. -/
import Derived.WalkKit
namespace Go.Proofs.Qxb6619751a

def isSp (b : UInt8) : Bool := b.toNat == 32 || b.toNat == 9 || b.toNat == 10 || b.toNat == 13
/-- where the run of whitespace that starts at a ends -/
def nx (l : List UInt8) (a : Nat) : Nat := a + ((l.drop a).takeWhile isSp).length
/-- how many bytes the run of closing bytes and whitespace takes, and how many of them close -/
def scan (c : UInt8) : List UInt8 → Nat × Nat
  | [] => (0, 0)
  | b :: t => if isSp b then ((scan c t).1 + 1, (scan c t).2) else if b = c then ((scan c t).1 + 1, (scan c t).2 + 1) else (0, 0)

theorem drop_cons (l : List UInt8) (a : Nat) (h : a < l.length) : l.drop a = l[a] :: l.drop (a + 1) := List.drop_eq_getElem_cons h
theorem nx_sp (l : List UInt8) (a : Nat) (h : a < l.length) (hs : isSp l[a] = true) : nx l a = nx l (a + 1) := by
  unfold nx; rw [drop_cons l a h, List.takeWhile_cons, if_pos hs]; simp; omega
theorem nx_no (l : List UInt8) (a : Nat) (h : a < l.length) (hs : isSp l[a] = false) : nx l a = a := by
  unfold nx; rw [drop_cons l a h, List.takeWhile_cons]; simp [hs]
theorem nx_end (l : List UInt8) (a : Nat) (h : l.length ≤ a) : nx l a = a := by
  unfold nx; rw [List.drop_eq_nil_of_le h]; simp
theorem nx_le (l : List UInt8) (a : Nat) (h : a ≤ l.length) : nx l a ≤ l.length := by
  unfold nx
  have h1 := (List.takeWhile_sublist (p := isSp) (l := l.drop a)).length_le
  rw [List.length_drop] at h1
  omega
theorem nx_ge (l : List UInt8) (a : Nat) : a ≤ nx l a := by unfold nx; omega

theorem scan_le (c : UInt8) : ∀ s, (scan c s).2 ≤ s.length
  | [] => by simp [scan]
  | b :: t => by
    have := scan_le c t
    unfold scan
    split
    · simp; omega
    · split <;> simp <;> omega

theorem scan_sp (c : UInt8) (l : List UInt8) (a : Nat) (h : a < l.length) (hs : isSp l[a] = true) : scan c (l.drop a) = ((scan c (l.drop (a + 1))).1 + 1, (scan c (l.drop (a + 1))).2) := by
  rw [drop_cons l a h]; simp [scan, hs]
theorem scan_hit (c : UInt8) (l : List UInt8) (a : Nat) (h : a < l.length) (hs : isSp l[a] = false) (hc : l[a] = c) : scan c (l.drop a) = ((scan c (l.drop (a + 1))).1 + 1, (scan c (l.drop (a + 1))).2 + 1) := by
  rw [drop_cons l a h, scan, if_neg (by rw [hs]; simp), if_pos hc]
theorem scan_no (c : UInt8) (l : List UInt8) (a : Nat) (h : a < l.length) (hs : isSp l[a] = false) (hc : l[a] ≠ c) : scan c (l.drop a) = (0, 0) := by
  rw [drop_cons l a h]; simp [scan, hs, hc]
theorem scan_end (c : UInt8) (l : List UInt8) (a : Nat) (h : l.length ≤ a) : scan c (l.drop a) = (0, 0) := by
  rw [List.drop_eq_nil_of_le h]; rfl

/-- whitespace passed: the run from there on -/
theorem scan_nx (c : UInt8) (l : List UInt8) : ∀ (k a : Nat), l.length - a = k → a + (scan c (l.drop a)).1 = nx l a + (scan c (l.drop (nx l a))).1 ∧ (scan c (l.drop a)).2 = (scan c (l.drop (nx l a))).2
  | 0, a, hk => by rw [nx_end l a (by omega)]; exact ⟨rfl, rfl⟩
  | k + 1, a, hk => by
    have h : a < l.length := by omega
    cases hs : isSp l[a] with
    | false => rw [nx_no l a h hs]; exact ⟨rfl, rfl⟩
    | true =>
      have ih := scan_nx c l k (a + 1) (by omega)
      rw [nx_sp l a h hs, scan_sp c l a h hs]
      exact ⟨by rw [← ih.1]; simp; omega, ih.2⟩

/-- the byte at which the whitespace ends is none -/
theorem nx_stop (l : List UInt8) : ∀ (k a : Nat), l.length - a = k → ∀ (h : nx l a < l.length), isSp l[nx l a] = false
  | 0, a, hk, h => by
    have := nx_ge l a
    omega
  | k + 1, a, hk, h => by
    have ha : a < l.length := by omega
    cases hs : isSp l[a] with
    | false =>
      have e := nx_no l a ha hs
      simp only [e]
      exact hs
    | true =>
      have e := nx_sp l a ha hs
      have ih := nx_stop l k (a + 1) (by omega) (by rw [← e]; exact h)
      simp only [e]
      exact ih

end Go.Proofs.Qxb6619751a
