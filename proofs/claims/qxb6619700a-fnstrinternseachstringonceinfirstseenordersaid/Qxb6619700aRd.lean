/- The shared contracts of the seat, second part: zzReadUvarint at a buffer that holds a varint in its shortest form. -/
import Derived.Test.Qxb6619700aVar
import Derived.Laws.Closers25b
namespace Go.Proofs.Qxb6619700a
open Go.RowKit

theorem ret_tup {a b : Array Value} (h : a = b) : Ending.returned (.tuple a) = .returned (.tuple b) := by rw [h]

theorem ret_fin {X : Nat} {a : Int} {b : Nat} (h : a = (b : Int)) : Ending.returned (.tuple #[.int .u64 (X : Int), .int .i64 a, .bool true]) = .returned (.tuple #[.int .u64 (X : Int), .int .i64 (b : Int), .bool true]) := by rw [h]

/-- what the loop knows at byte k: acc is gathered, y stands in the bytes to come -/
def RdRel (l : List UInt8) (pos X : Nat) (rest : List UInt8) (k acc y : Nat) : Prop :=
  k ≤ 9 ∧ acc < 2 ^ (7 * k) ∧ X = acc + y * 2 ^ (7 * k) ∧ l.drop (pos + k) = Lib.uvarint y ++ rest ∧ (k ≠ 0 → y ≠ 0) ∧ k + (Lib.uvarint y).length = (Lib.uvarint X).length

theorem rd_byte {l : List UInt8} {i : Nat} {b : UInt8} {t : List UInt8} (h : l.drop i = b :: t) : ∃ hi : i < l.length, l[i] = b ∧ l.drop (i + 1) = t := by
  have hi : i < l.length := by
    rcases Nat.lt_or_ge i l.length with h1 | h1
    · exact h1
    · rw [List.drop_eq_nil_of_le h1] at h; simp at h
  refine ⟨hi, ?_⟩
  rw [List.drop_eq_getElem_cons hi] at h
  exact List.cons.inj h

theorem RdRel.next {l rest t : List UInt8} {pos X k acc y : Nat} (hk : k ≤ 8) (hacc : acc < 2 ^ (7 * k)) (hX : X = acc + y * 2 ^ (7 * k)) (hy : 128 ≤ y) (ht : l.drop (pos + k + 1) = t) (htr : t = Lib.uvarint (y / 128) ++ rest)
    (hlu : (Lib.uvarint y).length = 1 + (Lib.uvarint (y / 128)).length) (hlen : k + (Lib.uvarint y).length = (Lib.uvarint X).length) : RdRel l pos X rest (k + 1) (acc + y % 128 * 2 ^ (7 * k)) (y / 128) := by
  have hp : 2 ^ (7 * (k + 1)) = 128 * 2 ^ (7 * k) := by rw [show 7 * (k + 1) = 7 + 7 * k by omega, Nat.pow_add]
  have hle : y % 128 * 2 ^ (7 * k) ≤ 127 * 2 ^ (7 * k) := Nat.mul_le_mul_right _ (by omega)
  refine ⟨by omega, by rw [hp]; omega, ?_, by rw [← htr, ← ht]; rfl, fun _ => by omega, by omega⟩
  have he : y * 2 ^ (7 * k) = y % 128 * 2 ^ (7 * k) + y / 128 * (128 * 2 ^ (7 * k)) := by
    rw [← Nat.mul_assoc, ← Nat.add_mul]
    congr 1
    omega
  rw [hp, hX, he, Nat.add_assoc]

set_option maxHeartbeats 32000000 in
set_option maxRecDepth 100000 in
theorem rd (g o n c : Nat) (l rest : List UInt8) (pos X : Nat) (w : World) (hl : l.length = n) (hn : n ≤ 1099511627776) (hX : X < 18446744073709551616)
    (hcell : ∀ j (hj : j < l.length), w.cell? ⟨g, o + j, none⟩ = some (.int .u8 (l[j]).toNat)) (hdrop : l.drop pos = Lib.uvarint X ++ rest) :
    Calls Try.prog 11 #[.slice (some ⟨g, o, none⟩) n c, .int .i64 pos] w fun e w' => e = .returned (.tuple #[.int .u64 X, .int .i64 ((pos + (Lib.uvarint X).length : Nat) : Int), .bool true]) ∧ w' = w := by
  have hposn : pos < n := by
    have := congrArg List.length hdrop
    have := Lib.uvarint_pos X
    simp at *
    omega
  go_enter Try.func11, Try.ntmps11
  go_wp2
  go_loop [7, 8, 9] (fun vx vs vi => ∃ k acc y : Nat, vi = .int .i64 k ∧ vs = .int .u64 ((7 * k : Nat) : Int) ∧ vx = .int .u64 acc ∧ RdRel l pos X rest k acc y)
    (fun _ _ vi => 10 - (intOf vi).toNat)
  case atStart => exact ⟨0, 0, X, rfl, rfl, rfl, by omega, by simp, by simp, by simpa using hdrop, by simp, by simp⟩
  case round =>
    obtain ⟨k, acc, y, rfl, rfl, rfl, hk, hacc, hXe, hd, hy0, hlen⟩ := hrel
    clear hdrop
    have hex : ∃ b : UInt8, ∃ t, l.drop (pos + k) = b :: t ∧ ((y < 128 ∧ b.toNat = y ∧ t = rest ∧ (Lib.uvarint y).length = 1) ∨ (128 ≤ y ∧ b.toNat = y % 128 + 128 ∧ t = Lib.uvarint (y / 128) ++ rest ∧ (Lib.uvarint y).length = 1 + (Lib.uvarint (y / 128)).length)) := by
      by_cases h : y < 128
      · refine ⟨y.toUInt8, rest, by rw [hd, Lib.uvarint_small h]; rfl, .inl ⟨h, Lib.toUInt8_toNat (by omega), rfl, by rw [Lib.uvarint_small h]; rfl⟩⟩
      · refine ⟨(y % 128 + 128).toUInt8, Lib.uvarint (y / 128) ++ rest, by rw [hd, Lib.uvarint_big (by omega)]; rfl, .inr ⟨by omega, Lib.toUInt8_toNat (by omega), rfl, by rw [Lib.uvarint_big (by omega)]; simp; omega⟩⟩
    obtain ⟨b, t, hbt, hcase⟩ := hex
    obtain ⟨hi, hbe, ht⟩ := rd_byte hbt
    have hc := hcell (pos + k) hi
    rw [hbe] at hc
    rw [hl] at hi
    have hint : (pos : Int) + (k : Int) < (n : Int) := by omega
    have hb256 : b.toNat < 256 := b.toNat_lt
    clear hcell hbt hbe hd hl
    have hks : k = 0 ∨ k = 1 ∨ k = 2 ∨ k = 3 ∨ k = 4 ∨ k = 5 ∨ k = 6 ∨ k = 7 ∨ k = 8 ∨ k = 9 := by omega
    rcases hks with rfl | rfl | rfl | rfl | rfl | rfl | rfl | rfl | rfl | rfl
    · have hacc' : acc < 1 := by simpa using hacc
      have hXm : X = acc + y * 1 := by simpa using hXe
      have HX : Hid (X = acc + y * 1) := hXm
      clear hXm
      obtain rfl : acc = 0 := by omega
      have hc0 : w.cell? ⟨g, o + pos, none⟩ = some (.int .u8 b.toNat) := hc
      rcases hcase with ⟨hy, hb, htr, hlu⟩ | ⟨hy, hb, htr, hlu⟩
      · have hor : bits .or .u64 0 ((b.toNat : Int)) = ((X : Nat) : Int) := by
          have hx2 := HX.out
          rw [u64_orv0 _ _ (by omega) (by omega) (by omega) (by omega) (by omega)]
          omega
        have hb1 : b.toNat < 128 := by omega
        have HF : Hid ((pos : Int) + 1 = ((pos + (Lib.uvarint X).length : Nat) : Int)) := by show (_ : Int) = _; omega
        clear hXe hacc hb hlen hlu hy0 htr ht
        rcases Nat.eq_zero_or_pos b.toNat with hz | hz
        · have hor0 : bits .or .u64 0 0 = ((X : Nat) : Int) := by rw [hz] at hor; exact hor
          clear hor
          go_wp2
          go_ret3
          exact ⟨ret_fin HF.out, rfl⟩
        · go_wp2
          go_ret3
          exact ⟨ret_fin HF.out, rfl⟩
      · have hv : bits .or .u64 0 (IntKind.u64.wrap (IntKind.u64.wrap (bits .and .u8 (b.toNat : Int) 127))) = ((0 + y % 128 * 1 : Nat) : Int) := by
          simp (disch := omega) only [u8_and127, u64_wrap_id, u64_orv0]
          omega
        have hb1 : 128 ≤ b.toNat := by omega
        have HN : Hid (RdRel l pos X rest (0 + 1) (0 + y % 128 * 2 ^ (7 * 0)) (y / 128)) := RdRel.next (by omega) hacc hXe hy ht htr hlu hlen
        clear hXe hacc hb hlen hlu hy0 htr ht
        go_wp2
        exact ⟨⟨1, 0 + y % 128 * 2 ^ (7 * 0), y / 128, rfl, rfl, by simp, HN.out⟩, by simp [intOf]⟩
    · have hacc' : acc < 128 := by simpa using hacc
      have hXm : X = acc + y * 128 := by simpa using hXe
      have HX : Hid (X = acc + y * 128) := hXm
      clear hXm
      rcases hcase with ⟨hy, hb, htr, hlu⟩ | ⟨hy, hb, htr, hlu⟩
      · have hor : bits .or .u64 (acc : Int) ((b.toNat : Int) * 128) = ((X : Nat) : Int) := by
          have hx2 := HX.out
          rw [u64_orv7 _ _ (by omega) (by omega) (by omega) (by omega) (by omega)]
          omega
        have hb1 : b.toNat < 128 := by omega
        have hb3 : 0 < b.toNat := by have := hy0 (by omega); omega
        have HF : Hid ((pos : Int) + 1 + 1 = ((pos + (Lib.uvarint X).length : Nat) : Int)) := by show (_ : Int) = _; omega
        clear hXe hacc hb hlen hlu hy0 htr ht
        go_wp2
        go_ret3
        exact ⟨ret_fin (HF.out), rfl⟩
      · have hv : bits .or .u64 (acc : Int) (IntKind.u64.wrap (IntKind.u64.wrap (bits .and .u8 (b.toNat : Int) 127) * 128)) = ((acc + y % 128 * 128 : Nat) : Int) := by
          simp (disch := omega) only [u8_and127, u64_wrap_id, u64_orv7]
          omega
        have hb1 : 128 ≤ b.toNat := by omega
        have HN : Hid (RdRel l pos X rest (1 + 1) (acc + y % 128 * 2 ^ (7 * 1)) (y / 128)) := RdRel.next (by omega) hacc hXe hy ht htr hlu hlen
        clear hXe hacc hb hlen hlu hy0 htr ht
        go_wp2
        exact ⟨⟨2, _, y / 128, rfl, rfl, rfl, HN.out⟩, by simp [intOf]⟩
    · have hacc' : acc < 16384 := by simpa using hacc
      have hXm : X = acc + y * 16384 := by simpa using hXe
      have HX : Hid (X = acc + y * 16384) := hXm
      clear hXm
      rcases hcase with ⟨hy, hb, htr, hlu⟩ | ⟨hy, hb, htr, hlu⟩
      · have hor : bits .or .u64 (acc : Int) ((b.toNat : Int) * 16384) = ((X : Nat) : Int) := by
          have hx2 := HX.out
          rw [u64_orv14 _ _ (by omega) (by omega) (by omega) (by omega) (by omega)]
          omega
        have hb1 : b.toNat < 128 := by omega
        have hb3 : 0 < b.toNat := by have := hy0 (by omega); omega
        have HF : Hid ((pos : Int) + 2 + 1 = ((pos + (Lib.uvarint X).length : Nat) : Int)) := by show (_ : Int) = _; omega
        clear hXe hacc hb hlen hlu hy0 htr ht
        go_wp2
        go_ret3
        exact ⟨ret_fin (HF.out), rfl⟩
      · have hv : bits .or .u64 (acc : Int) (IntKind.u64.wrap (IntKind.u64.wrap (bits .and .u8 (b.toNat : Int) 127) * 16384)) = ((acc + y % 128 * 16384 : Nat) : Int) := by
          simp (disch := omega) only [u8_and127, u64_wrap_id, u64_orv14]
          omega
        have hb1 : 128 ≤ b.toNat := by omega
        have HN : Hid (RdRel l pos X rest (2 + 1) (acc + y % 128 * 2 ^ (7 * 2)) (y / 128)) := RdRel.next (by omega) hacc hXe hy ht htr hlu hlen
        clear hXe hacc hb hlen hlu hy0 htr ht
        go_wp2
        exact ⟨⟨3, _, y / 128, rfl, rfl, rfl, HN.out⟩, by simp [intOf]⟩
    · have hacc' : acc < 2097152 := by simpa using hacc
      have hXm : X = acc + y * 2097152 := by simpa using hXe
      have HX : Hid (X = acc + y * 2097152) := hXm
      clear hXm
      rcases hcase with ⟨hy, hb, htr, hlu⟩ | ⟨hy, hb, htr, hlu⟩
      · have hor : bits .or .u64 (acc : Int) ((b.toNat : Int) * 2097152) = ((X : Nat) : Int) := by
          have hx2 := HX.out
          rw [u64_orv21 _ _ (by omega) (by omega) (by omega) (by omega) (by omega)]
          omega
        have hb1 : b.toNat < 128 := by omega
        have hb3 : 0 < b.toNat := by have := hy0 (by omega); omega
        have HF : Hid ((pos : Int) + 3 + 1 = ((pos + (Lib.uvarint X).length : Nat) : Int)) := by show (_ : Int) = _; omega
        clear hXe hacc hb hlen hlu hy0 htr ht
        go_wp2
        go_ret3
        exact ⟨ret_fin (HF.out), rfl⟩
      · have hv : bits .or .u64 (acc : Int) (IntKind.u64.wrap (IntKind.u64.wrap (bits .and .u8 (b.toNat : Int) 127) * 2097152)) = ((acc + y % 128 * 2097152 : Nat) : Int) := by
          simp (disch := omega) only [u8_and127, u64_wrap_id, u64_orv21]
          omega
        have hb1 : 128 ≤ b.toNat := by omega
        have HN : Hid (RdRel l pos X rest (3 + 1) (acc + y % 128 * 2 ^ (7 * 3)) (y / 128)) := RdRel.next (by omega) hacc hXe hy ht htr hlu hlen
        clear hXe hacc hb hlen hlu hy0 htr ht
        go_wp2
        exact ⟨⟨4, _, y / 128, rfl, rfl, rfl, HN.out⟩, by simp [intOf]⟩
    · have hacc' : acc < 268435456 := by simpa using hacc
      have hXm : X = acc + y * 268435456 := by simpa using hXe
      have HX : Hid (X = acc + y * 268435456) := hXm
      clear hXm
      rcases hcase with ⟨hy, hb, htr, hlu⟩ | ⟨hy, hb, htr, hlu⟩
      · have hor : bits .or .u64 (acc : Int) ((b.toNat : Int) * 268435456) = ((X : Nat) : Int) := by
          have hx2 := HX.out
          rw [u64_orv28 _ _ (by omega) (by omega) (by omega) (by omega) (by omega)]
          omega
        have hb1 : b.toNat < 128 := by omega
        have hb3 : 0 < b.toNat := by have := hy0 (by omega); omega
        have HF : Hid ((pos : Int) + 4 + 1 = ((pos + (Lib.uvarint X).length : Nat) : Int)) := by show (_ : Int) = _; omega
        clear hXe hacc hb hlen hlu hy0 htr ht
        go_wp2
        go_ret3
        exact ⟨ret_fin (HF.out), rfl⟩
      · have hv : bits .or .u64 (acc : Int) (IntKind.u64.wrap (IntKind.u64.wrap (bits .and .u8 (b.toNat : Int) 127) * 268435456)) = ((acc + y % 128 * 268435456 : Nat) : Int) := by
          simp (disch := omega) only [u8_and127, u64_wrap_id, u64_orv28]
          omega
        have hb1 : 128 ≤ b.toNat := by omega
        have HN : Hid (RdRel l pos X rest (4 + 1) (acc + y % 128 * 2 ^ (7 * 4)) (y / 128)) := RdRel.next (by omega) hacc hXe hy ht htr hlu hlen
        clear hXe hacc hb hlen hlu hy0 htr ht
        go_wp2
        exact ⟨⟨5, _, y / 128, rfl, rfl, rfl, HN.out⟩, by simp [intOf]⟩
    · have hacc' : acc < 34359738368 := by simpa using hacc
      have hXm : X = acc + y * 34359738368 := by simpa using hXe
      have HX : Hid (X = acc + y * 34359738368) := hXm
      clear hXm
      rcases hcase with ⟨hy, hb, htr, hlu⟩ | ⟨hy, hb, htr, hlu⟩
      · have hor : bits .or .u64 (acc : Int) ((b.toNat : Int) * 34359738368) = ((X : Nat) : Int) := by
          have hx2 := HX.out
          rw [u64_orv35 _ _ (by omega) (by omega) (by omega) (by omega) (by omega)]
          omega
        have hb1 : b.toNat < 128 := by omega
        have hb3 : 0 < b.toNat := by have := hy0 (by omega); omega
        have HF : Hid ((pos : Int) + 5 + 1 = ((pos + (Lib.uvarint X).length : Nat) : Int)) := by show (_ : Int) = _; omega
        clear hXe hacc hb hlen hlu hy0 htr ht
        go_wp2
        go_ret3
        exact ⟨ret_fin (HF.out), rfl⟩
      · have hv : bits .or .u64 (acc : Int) (IntKind.u64.wrap (IntKind.u64.wrap (bits .and .u8 (b.toNat : Int) 127) * 34359738368)) = ((acc + y % 128 * 34359738368 : Nat) : Int) := by
          simp (disch := omega) only [u8_and127, u64_wrap_id, u64_orv35]
          omega
        have hb1 : 128 ≤ b.toNat := by omega
        have HN : Hid (RdRel l pos X rest (5 + 1) (acc + y % 128 * 2 ^ (7 * 5)) (y / 128)) := RdRel.next (by omega) hacc hXe hy ht htr hlu hlen
        clear hXe hacc hb hlen hlu hy0 htr ht
        go_wp2
        exact ⟨⟨6, _, y / 128, rfl, rfl, rfl, HN.out⟩, by simp [intOf]⟩
    · have hacc' : acc < 4398046511104 := by simpa using hacc
      have hXm : X = acc + y * 4398046511104 := by simpa using hXe
      have HX : Hid (X = acc + y * 4398046511104) := hXm
      clear hXm
      rcases hcase with ⟨hy, hb, htr, hlu⟩ | ⟨hy, hb, htr, hlu⟩
      · have hor : bits .or .u64 (acc : Int) ((b.toNat : Int) * 4398046511104) = ((X : Nat) : Int) := by
          have hx2 := HX.out
          rw [u64_orv42 _ _ (by omega) (by omega) (by omega) (by omega) (by omega)]
          omega
        have hb1 : b.toNat < 128 := by omega
        have hb3 : 0 < b.toNat := by have := hy0 (by omega); omega
        have HF : Hid ((pos : Int) + 6 + 1 = ((pos + (Lib.uvarint X).length : Nat) : Int)) := by show (_ : Int) = _; omega
        clear hXe hacc hb hlen hlu hy0 htr ht
        go_wp2
        go_ret3
        exact ⟨ret_fin (HF.out), rfl⟩
      · have hv : bits .or .u64 (acc : Int) (IntKind.u64.wrap (IntKind.u64.wrap (bits .and .u8 (b.toNat : Int) 127) * 4398046511104)) = ((acc + y % 128 * 4398046511104 : Nat) : Int) := by
          simp (disch := omega) only [u8_and127, u64_wrap_id, u64_orv42]
          omega
        have hb1 : 128 ≤ b.toNat := by omega
        have HN : Hid (RdRel l pos X rest (6 + 1) (acc + y % 128 * 2 ^ (7 * 6)) (y / 128)) := RdRel.next (by omega) hacc hXe hy ht htr hlu hlen
        clear hXe hacc hb hlen hlu hy0 htr ht
        go_wp2
        exact ⟨⟨7, _, y / 128, rfl, rfl, rfl, HN.out⟩, by simp [intOf]⟩
    · have hacc' : acc < 562949953421312 := by simpa using hacc
      have hXm : X = acc + y * 562949953421312 := by simpa using hXe
      have HX : Hid (X = acc + y * 562949953421312) := hXm
      clear hXm
      rcases hcase with ⟨hy, hb, htr, hlu⟩ | ⟨hy, hb, htr, hlu⟩
      · have hor : bits .or .u64 (acc : Int) ((b.toNat : Int) * 562949953421312) = ((X : Nat) : Int) := by
          have hx2 := HX.out
          rw [u64_orv49 _ _ (by omega) (by omega) (by omega) (by omega) (by omega)]
          omega
        have hb1 : b.toNat < 128 := by omega
        have hb3 : 0 < b.toNat := by have := hy0 (by omega); omega
        have HF : Hid ((pos : Int) + 7 + 1 = ((pos + (Lib.uvarint X).length : Nat) : Int)) := by show (_ : Int) = _; omega
        clear hXe hacc hb hlen hlu hy0 htr ht
        go_wp2
        go_ret3
        exact ⟨ret_fin (HF.out), rfl⟩
      · have hv : bits .or .u64 (acc : Int) (IntKind.u64.wrap (IntKind.u64.wrap (bits .and .u8 (b.toNat : Int) 127) * 562949953421312)) = ((acc + y % 128 * 562949953421312 : Nat) : Int) := by
          simp (disch := omega) only [u8_and127, u64_wrap_id, u64_orv49]
          omega
        have hb1 : 128 ≤ b.toNat := by omega
        have HN : Hid (RdRel l pos X rest (7 + 1) (acc + y % 128 * 2 ^ (7 * 7)) (y / 128)) := RdRel.next (by omega) hacc hXe hy ht htr hlu hlen
        clear hXe hacc hb hlen hlu hy0 htr ht
        go_wp2
        exact ⟨⟨8, _, y / 128, rfl, rfl, rfl, HN.out⟩, by simp [intOf]⟩
    · have hacc' : acc < 72057594037927936 := by simpa using hacc
      have hXm : X = acc + y * 72057594037927936 := by simpa using hXe
      have HX : Hid (X = acc + y * 72057594037927936) := hXm
      clear hXm
      rcases hcase with ⟨hy, hb, htr, hlu⟩ | ⟨hy, hb, htr, hlu⟩
      · have hor : bits .or .u64 (acc : Int) ((b.toNat : Int) * 72057594037927936) = ((X : Nat) : Int) := by
          have hx2 := HX.out
          rw [u64_orv56 _ _ (by omega) (by omega) (by omega) (by omega) (by omega)]
          omega
        have hb1 : b.toNat < 128 := by omega
        have hb3 : 0 < b.toNat := by have := hy0 (by omega); omega
        have HF : Hid ((pos : Int) + 8 + 1 = ((pos + (Lib.uvarint X).length : Nat) : Int)) := by show (_ : Int) = _; omega
        clear hXe hacc hb hlen hlu hy0 htr ht
        go_wp2
        go_ret3
        exact ⟨ret_fin (HF.out), rfl⟩
      · have hv : bits .or .u64 (acc : Int) (IntKind.u64.wrap (IntKind.u64.wrap (bits .and .u8 (b.toNat : Int) 127) * 72057594037927936)) = ((acc + y % 128 * 72057594037927936 : Nat) : Int) := by
          simp (disch := omega) only [u8_and127, u64_wrap_id, u64_orv56]
          omega
        have hb1 : 128 ≤ b.toNat := by omega
        have HN : Hid (RdRel l pos X rest (8 + 1) (acc + y % 128 * 2 ^ (7 * 8)) (y / 128)) := RdRel.next (by omega) hacc hXe hy ht htr hlu hlen
        clear hXe hacc hb hlen hlu hy0 htr ht
        go_wp2
        exact ⟨⟨9, _, y / 128, rfl, rfl, rfl, HN.out⟩, by simp [intOf]⟩
    · have hacc' : acc < 9223372036854775808 := by simpa using hacc
      have hXm : X = acc + y * 9223372036854775808 := by simpa using hXe
      have HX : Hid (X = acc + y * 9223372036854775808) := hXm
      clear hXm
      rcases hcase with ⟨hy, hb, htr, hlu⟩ | ⟨hy, hb, htr, hlu⟩
      · have hor : bits .or .u64 (acc : Int) ((b.toNat : Int) * 9223372036854775808) = ((X : Nat) : Int) := by
          have hx2 := HX.out
          rw [u64_orv63 _ _ (by omega) (by omega) (by omega) (by omega) (by omega)]
          omega
        have hb1 : b.toNat < 128 := by omega
        have hb2 : b.toNat ≤ 1 := by have hx2 := HX.out; omega
        have hb3 : 0 < b.toNat := by have := hy0 (by omega); omega
        have HF : Hid ((pos : Int) + 9 + 1 = ((pos + (Lib.uvarint X).length : Nat) : Int)) := by show (_ : Int) = _; omega
        clear hXe hacc hb hlen hlu hy0 htr ht
        go_wp2
        go_ret3
        exact ⟨ret_fin (HF.out), rfl⟩
      · exfalso
        have hx2 := HX.out
        omega

#print axioms rd
end Go.Proofs.Qxb6619700a
