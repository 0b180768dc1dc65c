/- FnFieldsAppendedInAnyOrderReadBackInOrder, second part: what the fields give, and the contracts in the form in which the walk meets them. -/
import Derived.Test.Qxb6619700aFld0
import Derived.Test.Qxb6619700aRd
import Derived.Lib.ConvBytes
namespace Go.Proofs.Qxb6619700a
open Go.RowKit

/-- what one field adds -/
def item (b : Bool) (f v : Int) (d : ByteArray) : List UInt8 := if b then fB f.toNat d.data.toList else fU f.toNat v.toNat
/-- what the first k fields give -/
def enc (bs : List Bool) (fs vs : List Int) (ds : List ByteArray) : Nat → List UInt8
  | 0 => []
  | k + 1 => enc bs fs vs ds k ++ item (bs.getD k false) (fs.getD k 0) (vs.getD k 0) (ds.getD k ByteArray.empty)

/-- the four slices as they came in -/
structure Four (w : World) (a0 a1 a2 a3 : Option Addr) (n0 n1 n2 n3 : Nat) (bs : List Bool) (fs vs : List Int) (ds : List ByteArray) : Prop where
  r0 : Row w a0 n0 (bs.map Value.bool)
  r1 : Row w a1 n1 (fs.map (Value.int .i64))
  r2 : Row w a2 n2 (vs.map (Value.int .u64))
  r3 : Row w a3 n3 (strVals ds)
  b1 : ∀ k, -9223372036854775808 ≤ fs.getD k 0 ∧ fs.getD k 0 ≤ 9223372036854775807
  b2 : ∀ k, 0 ≤ vs.getD k 0 ∧ vs.getD k 0 ≤ 18446744073709551615

theorem getD_map {α : Type} (f : α → Value) (xs : List α) (d : α) (k : Nat) (hk : k < (xs.map f).length) : (xs.map f)[k] = f (xs.getD k d) := by
  have h : k < xs.length := by simpa using hk
  simp [List.getD, h]

section
variable {w : World} {a0 a1 a2 a3 : Option Addr} {n0 n1 n2 n3 : Nat} {bs : List Bool} {fs vs : List Int} {ds : List ByteArray}
theorem Four.at0 (h : Four w a0 a1 a2 a3 n0 n1 n2 n3 bs fs vs ds) {k : Nat} (hk : k < n0) :
    ∃ p : Addr, (∀ c W, (Instr.indexAt 38 (.slice a0 n0 c) (.int .i64 (k : Int))).run Try.prog W = .ok (.pointer (some p)) W) ∧ ∀ W, Below w.heap.size w W → W.cell? p = some (.bool (bs.getD k false)) := by
  obtain ⟨p, h1, h2⟩ := h.r0.at 38 t38 s38 hk
  exact ⟨p, h1, fun W hW => by rw [h2 W hW, getD_map _ _ false]⟩
theorem Four.at1 (h : Four w a0 a1 a2 a3 n0 n1 n2 n3 bs fs vs ds) {k : Nat} (hk : k < n1) :
    ∃ p : Addr, (∀ c W, (Instr.indexAt 39 (.slice a1 n1 c) (.int .i64 (k : Int))).run Try.prog W = .ok (.pointer (some p)) W) ∧ ∀ W, Below w.heap.size w W → W.cell? p = some (.int .i64 (fs.getD k 0)) := by
  obtain ⟨p, h1, h2⟩ := h.r1.at 39 t39 s39 hk
  exact ⟨p, h1, fun W hW => by rw [h2 W hW, getD_map _ _ 0]⟩
theorem Four.at2 (h : Four w a0 a1 a2 a3 n0 n1 n2 n3 bs fs vs ds) {k : Nat} (hk : k < n2) :
    ∃ p : Addr, (∀ c W, (Instr.indexAt 40 (.slice a2 n2 c) (.int .i64 (k : Int))).run Try.prog W = .ok (.pointer (some p)) W) ∧ ∀ W, Below w.heap.size w W → W.cell? p = some (.int .u64 (vs.getD k 0)) := by
  obtain ⟨p, h1, h2⟩ := h.r2.at 40 t40 s40 hk
  exact ⟨p, h1, fun W hW => by rw [h2 W hW, getD_map _ _ 0]⟩
theorem Four.at3 (h : Four w a0 a1 a2 a3 n0 n1 n2 n3 bs fs vs ds) {k : Nat} (hk : k < n3) :
    ∃ p : Addr, (∀ c W, (Instr.indexAt 22 (.slice a3 n3 c) (.int .i64 (k : Int))).run Try.prog W = .ok (.pointer (some p)) W) ∧ ∀ W, Below w.heap.size w W → W.cell? p = some (.string (ds.getD k ByteArray.empty)) := by
  obtain ⟨p, h1, h2⟩ := h.r3.at 22 t22 s22 hk
  exact ⟨p, h1, fun W hW => by rw [h2 W hW]; unfold strVals; rw [getD_map _ _ ByteArray.empty]⟩
end

/-! ### the plain side -/
theorem enc_split (bs : List Bool) (fs vs : List Int) (ds : List ByteArray) (k : Nat) : ∀ n, k < n → ∃ r, enc bs fs vs ds n = enc bs fs vs ds k ++ (item (bs.getD k false) (fs.getD k 0) (vs.getD k 0) (ds.getD k ByteArray.empty) ++ r)
  | 0, h => by omega
  | n + 1, h => by
    by_cases hk : k = n
    · subst hk
      exact ⟨[], by simp [enc]⟩
    · obtain ⟨r, hr⟩ := enc_split bs fs vs ds k n (by omega)
      exact ⟨r ++ item (bs.getD n false) (fs.getD n 0) (vs.getD n 0) (ds.getD n ByteArray.empty), by rw [enc, hr]; simp⟩

theorem item_len (b : Bool) (f v : Int) (d : ByteArray) (hf : 0 ≤ f ∧ f < 2305843009213693952) (hv : 0 ≤ v ∧ v ≤ 18446744073709551615) (hd : d.size ≤ 1048576) : (item b f v d).length ≤ 2097152 := by
  unfold item
  split
  · unfold fB
    have h1 := Lib.uvarint_length64 (x := 8 * f.toNat + 2) (by omega)
    have h2 := Lib.uvarint_length64 (x := d.data.toList.length) (by simp; omega)
    have h3 : d.data.toList.length = d.size := by simp
    rw [List.length_append, List.length_append]
    omega
  · have := fU_len f.toNat v.toNat (by omega) (by omega)
    omega

theorem enc_len (bs : List Bool) (fs vs : List Int) (ds : List ByteArray) (n : Nat) (hf : ∀ j, j < n → 0 ≤ fs.getD j 0 ∧ fs.getD j 0 < 2305843009213693952) (hv : ∀ j, 0 ≤ vs.getD j 0 ∧ vs.getD j 0 ≤ 18446744073709551615) (hd : ∀ j, j < n → (ds.getD j ByteArray.empty).size ≤ 1048576) :
    ∀ k, k ≤ n → (enc bs fs vs ds k).length ≤ k * 2097152
  | 0, _ => by simp [enc]
  | k + 1, h => by
    have h1 := enc_len bs fs vs ds n hf hv hd k (by omega)
    have h2 := item_len (bs.getD k false) (fs.getD k 0) (vs.getD k 0) (ds.getD k ByteArray.empty) (hf k (by omega)) (hv k) (hd k (by omega))
    rw [enc, List.length_append]
    omega

/-! ### the contracts -/
theorem grown_bytes (W : World) (d : ByteArray) : W.grownBy (Lib.bytesWorld W 5 d) none :=
  ⟨rfl, rfl, rfl, by rw [Lib.bytesWorld_size]; omega, fun k hk _ => Lib.bytesWorld_at_old W 5 d k hk⟩

theorem kept_none' {w w' : World} {B n : Nat} {v : Value} {xs : List Value} (h : w.ownsRow B 5 1 v n xs) (g : w.grownBy w' none) : w'.ownsRow B 5 1 v n xs :=
  h.kept g (by cases h : v.ownBlock with
    | none => exact .inl rfl
    | some k => exact .inr (by simp))

theorem add_at0 (b j : Nat) : (⟨b, 0, none⟩ : Addr).add j = ⟨b, j, none⟩ := by
  unfold Addr.add
  split <;> simp_all

theorem shape0 {w : World} {B n : Nat} {v : Value} {xs : List Value} (h : w.ownsRow B 5 1 v n xs) : ∃ ao cap, v = .slice ao n cap := by
  rcases h.2 with ⟨hv, h0⟩ | ⟨g, cap, cur, hv, _, _, h1, h2, _⟩
  · exact ⟨none, 0, by rw [hv, h0]⟩
  · exact ⟨_, cap, hv⟩

/-- what one step of the building loop leaves -/
def Built (w : World) (l : List UInt8) (v : Value) (wr : World) : Prop :=
  wr.ownsRow w.heap.size 5 1 v l.length (Lib.byteCells l) ∧ Below w.heap.size w wr

theorem call17 (w wr : World) (l : List UInt8) (sv : Value) (f c : Nat) (d : ByteArray) (hB : Built w l sv wr) (hf : f < 2305843009213693952) (hd : d.size ≤ 1048576) (hl : l.length ≤ 1099511627776) :
    Calls Try.prog 17 #[sv, .int .i64 f, .slice (some ⟨wr.heap.size, 0, none⟩) d.size c] (Lib.bytesWorld wr.drew 5 d) fun e w' => ∃ ao cap, e = .returned (.slice ao (l ++ fB f d.data.toList).length cap) ∧ Built w (l ++ fB f d.data.toList) (.slice ao (l ++ fB f d.data.toList).length cap) w' := by
  obtain ⟨hown, hbel⟩ := hB
  have hg : wr.grownBy (Lib.bytesWorld wr.drew 5 d) none := by
    have h := grown_bytes wr.drew d
    exact ⟨h.os, h.tape, h.output, h.size, h.block⟩
  have hsz : (Lib.bytesWorld wr.drew 5 d).heap.size = wr.heap.size + 1 := Lib.bytesWorld_size wr.drew 5 d
  have hdl : d.data.toList.length = d.size := by simp
  have hs0 := hbel.size
  have h := zab w.heap.size l.length f d.data.toList ⟨wr.heap.size, 0, none⟩ c hf (by omega) sv (Lib.byteCells l) (Lib.bytesWorld wr.drew 5 d) (kept_none' hown hg) (by omega) (by omega)
    (by
      intro e
      have := (hown.lt _ e).2
      simp at this)
    (by
      intro j hj
      rw [hdl] at hj
      have := Lib.bytesWorld_cell wr.drew 5 d j hj
      have e1 : d.data.toList.getD j 0 = d.data.toList[j]'(by omega) := by simp [List.getD, hj]
      rw [e1] at this
      have e2 : (⟨wr.heap.size, 0, none⟩ : Addr).add j = ⟨wr.heap.size, j, none⟩ := by rw [add_at0]
      rw [e2]
      exact this)
  rw [hdl] at h
  refine h.mono ?_
  rintro e w' ⟨v', rfl, ho, hgr⟩
  rw [← Lib.byteCells_append, ← List.length_append] at ho
  obtain ⟨ao, cap, rfl⟩ := shape0 ho
  refine ⟨ao, cap, rfl, ho, ?_⟩
  refine (hbel.grown hg (by omega) (fun k h => by simp at h)).grown hgr.grown (by omega) (fun k h => (hown.lt k h).1)

theorem call14 (w wr : World) (l : List UInt8) (sv : Value) (f x : Nat) (hB : Built w l sv wr) (hf : f < 2305843009213693952) (hx : x < 18446744073709551616) (hl : l.length ≤ 1099511627776) :
    Calls Try.prog 14 #[sv, .int .i64 f, .int .u64 x] wr.drew fun e w' => ∃ ao cap, e = .returned (.slice ao (l ++ fU f x).length cap) ∧ Built w (l ++ fU f x) (.slice ao (l ++ fU f x).length cap) w' := by
  obtain ⟨hown, hbel⟩ := hB
  have hs0 := hbel.size
  refine (zau w.heap.size l.length f x hf hx sv (Lib.byteCells l) wr.drew hown hs0 (by omega)).mono ?_
  rintro e w' ⟨v', rfl, ho, hgr⟩
  rw [← Lib.byteCells_append, ← List.length_append] at ho
  obtain ⟨ao, cap, rfl⟩ := shape0 ho
  exact ⟨ao, cap, rfl, ho, hbel.drew.grown hgr.grown hs0 (fun k h => (hown.lt k h).1)⟩

/-- reading a varint at pos of what was built -/
theorem rdo (w3 : World) (ao : Option Addr) (N cap : Nat) (l rest : List UInt8) (hR : Reads w3 (.slice ao N cap) l) (hN : N = l.length) (hle : N ≤ 1099511627776) (pos x : Nat) (hx : x < 18446744073709551616) (hdrop : l.drop pos = Lib.uvarint x ++ rest) (q : Nat) :
    Calls Try.prog 11 #[.slice ao N cap, .int .i64 pos] (w3.drewN q) fun e w' => e = .returned (.tuple #[.int .u64 x, .int .i64 ((pos + (Lib.uvarint x).length : Nat) : Int), .bool true]) ∧ w3.drewN q = w' := by
  rcases hR with ⟨h1, _⟩ | ⟨_, b, off, cap2, hv, hc⟩
  · have := Lib.uvarint_pos x
    have h2 := congrArg List.length hdrop
    rw [h1] at h2
    simp at h2
    omega
  · simp at hv
    obtain ⟨rfl, _, rfl⟩ := hv
    refine (rd b off N cap l rest pos x (w3.drewN q) hN.symm hle hx hc hdrop).mono ?_
    rintro e w' ⟨he, hw⟩
    exact ⟨he, hw.symm⟩

theorem s29 (W : World) : (sizeOf (Try.prog.elem 29)).run Try.prog W = .ok 1 W := by kernel_rfl
theorem t29 : Try.prog.underlying 29 = some (.slice (Try.prog.elem 29)) := by kernel_rfl
/-- one byte of what was built -/
theorem out_at (w3 : World) (ao : Option Addr) (N cap : Nat) (l : List UInt8) (hR : Reads w3 (.slice ao N cap) l) (hN : N = l.length) (a b : Nat) (hj : a + b < l.length) :
    ∃ p : Addr, (∀ c W, (Instr.indexAt 29 (.slice ao N c) (.int .i64 ((a : Int) + (b : Int)))).run Try.prog W = .ok (.pointer (some p)) W) ∧ w3.cell? p = some (.int .u8 (l[a + b]).toNat) := by
  rcases hR with ⟨h1, _⟩ | ⟨_, b', off, cap2, hv, hc⟩
  · subst h1; simp at hj
  · simp at hv
    obtain ⟨rfl, _, rfl⟩ := hv
    refine ⟨⟨b', off + (a + b), none⟩, fun c W => ?_, hc (a + b) hj⟩
    have h1 : (0 : Int) ≤ (a : Int) + (b : Int) := by omega
    have h2 : (a : Int) + (b : Int) < (N : Int) := by omega
    rw [run_indexAt_slice _ _ _ _ _ _ _ t29, if_pos ⟨h1, h2⟩, s29]
    have e : ((a : Int) + (b : Int)).toNat = a + b := by omega
    simp [Result.andThen, Addr.add, e]

/-- what the two reads answer at a varint field -/
theorem stepU (w3 : World) (ao : Option Addr) (N cap : Nat) (l pre r : List UInt8) (f x : Nat) (hR : Reads w3 (.slice ao N cap) l) (hN : N = l.length) (hle : N ≤ 1099511627776) (hl : l = pre ++ (fU f x ++ r)) (hf : f < 2305843009213693952) (hx : x < 18446744073709551616) (hx0 : 0 < x) :
    ∃ T P1 P2 : Nat, P2 = (pre ++ fU f x).length ∧ (T : Int) / 8 = (f : Int) ∧ bits .and .u64 (T : Int) 7 = 0 ∧
      (∀ q, Calls Try.prog 11 #[.slice ao N cap, .int .i64 (pre.length : Int)] (w3.drewN q) fun e w' => e = .returned (.tuple #[.int .u64 T, .int .i64 P1, .bool true]) ∧ w3.drewN q = w') ∧
      (∀ q, Calls Try.prog 11 #[.slice ao N cap, .int .i64 P1] (w3.drewN q) fun e w' => e = .returned (.tuple #[.int .u64 x, .int .i64 P2, .bool true]) ∧ w3.drewN q = w') := by
  have hne : x ≠ 0 := by omega
  have hfe : fU f x = Lib.uvarint (8 * f) ++ Lib.uvarint x := by rw [fU, if_neg hne]
  refine ⟨8 * f, pre.length + (Lib.uvarint (8 * f)).length, pre.length + (Lib.uvarint (8 * f)).length + (Lib.uvarint x).length, by rw [hfe]; simp; omega, by omega, ?_, fun q => ?_, fun q => ?_⟩
  · have h : bits .and .u64 ((8 * f : Nat) : Int) 7 = ((8 * f : Nat) : Int) % 8 := bits_mask .u64 64 (by decide) wraps_u64 3 (by decide) _ (by omega) (by omega)
    rw [h]
    omega
  · exact rdo w3 ao N cap l (Lib.uvarint x ++ r) hR hN hle pre.length (8 * f) (by omega) (by rw [hl, hfe]; simp) q
  · exact rdo w3 ao N cap l r hR hN hle _ x hx (by rw [hl, hfe, ← List.length_append, ← List.append_assoc, ← List.append_assoc, List.append_assoc (pre ++ Lib.uvarint (8 * f)), List.drop_left]) q

/-- what the two reads answer at a field of bytes -/
theorem stepB (w3 : World) (ao : Option Addr) (N cap : Nat) (l pre r : List UInt8) (f : Nat) (d : ByteArray) (hR : Reads w3 (.slice ao N cap) l) (hN : N = l.length) (hle : N ≤ 1099511627776) (hl : l = pre ++ (fB f d.data.toList ++ r)) (hf : f < 2305843009213693952) (hd : d.size ≤ 1048576) :
    ∃ T P1 P2 : Nat, P2 + d.size = (pre ++ fB f d.data.toList).length ∧ (T : Int) / 8 = (f : Int) ∧ bits .and .u64 (T : Int) 7 = 2 ∧
      (∀ q, Calls Try.prog 11 #[.slice ao N cap, .int .i64 (pre.length : Int)] (w3.drewN q) fun e w' => e = .returned (.tuple #[.int .u64 T, .int .i64 P1, .bool true]) ∧ w3.drewN q = w') ∧
      (∀ q, Calls Try.prog 11 #[.slice ao N cap, .int .i64 P1] (w3.drewN q) fun e w' => e = .returned (.tuple #[.int .u64 d.size, .int .i64 P2, .bool true]) ∧ w3.drewN q = w') ∧
      P2 + d.size ≤ N ∧
      (∀ i (hi : i < d.size), ∃ p : Addr, (∀ c W, (Instr.indexAt 29 (.slice ao N c) (.int .i64 ((P2 : Int) + (i : Int)))).run Try.prog W = .ok (.pointer (some p)) W) ∧ w3.cell? p = some (.int .u8 (d[i]).toNat)) := by
  have hdl : d.data.toList.length = d.size := by simp
  have hfe : fB f d.data.toList = Lib.uvarint (8 * f + 2) ++ (Lib.uvarint d.size ++ d.data.toList) := by rw [fB, hdl]
  obtain ⟨a, ha⟩ : ∃ a, a = Lib.uvarint (8 * f + 2) := ⟨_, rfl⟩
  obtain ⟨b, hb⟩ : ∃ b, b = Lib.uvarint d.size := ⟨_, rfl⟩
  have hl2 : l = (pre ++ a ++ b) ++ (d.data.toList ++ r) := by rw [hl, hfe, ha, hb]; simp
  have hlN : N = pre.length + a.length + b.length + d.size + r.length := by
    rw [hN, hl2]; simp [hdl]; omega
  refine ⟨8 * f + 2, pre.length + a.length, pre.length + a.length + b.length, by rw [hfe, ← ha, ← hb]; simp; omega, by omega, ?_, fun q => ?_, fun q => ?_, by omega, fun i hi => ?_⟩
  · have h : bits .and .u64 ((8 * f + 2 : Nat) : Int) 7 = ((8 * f + 2 : Nat) : Int) % 8 := bits_mask .u64 64 (by decide) wraps_u64 3 (by decide) _ (by omega) (by omega)
    rw [h]
    omega
  · rw [ha]
    exact rdo w3 ao N cap l (b ++ d.data.toList ++ r) hR hN hle pre.length (8 * f + 2) (by omega) (by rw [hl2, ha]; simp) q
  · have h := rdo w3 ao N cap l (d.data.toList ++ r) hR hN hle (pre.length + a.length) d.size (by omega) (by rw [hl2, ← List.length_append, List.append_assoc (pre ++ a), List.drop_left, hb]) q
    rw [← hb] at h
    exact h
  · have hj : pre.length + a.length + b.length + i < l.length := by omega
    obtain ⟨p, hp, hc⟩ := out_at w3 ao N cap l hR hN (pre.length + a.length + b.length) i hj
    refine ⟨p, hp, ?_⟩
    rw [hc]
    have e : l[pre.length + a.length + b.length + i] = d[i] := by
      have h1 : (pre ++ a ++ b).length = pre.length + a.length + b.length := by simp; omega
      simp only [hl2]
      rw [List.getElem_append_right (by omega), List.getElem_append_left (by simp; omega)]
      simp only [h1]
      show d.data.toList[_] = _
      simp
      rfl
    rw [e]

#print axioms call17
#print axioms call14
#print axioms stepU
#print axioms stepB
end Go.Proofs.Qxb6619700a
