/- The walk of FnAppendUintAddsOneVarintFieldOrNothing. -/
import Derived.Test.Qxb6619700aCln
import Derived.Test.Qxb6619700aRd
namespace Go.Proofs.Qxb6619700a.AU
open Go.RowKit

theorem bytes12 (a : Option Addr) (n cap : Nat) (f : Int) (v : Int) (hn : n ≤ 9223372036854775807) (w : World) :
    Calls Try.prog 12 #[.slice a n cap, .int .i64 f, .int .u64 v] w fun e w' => e = .returned (.bool (decide (n ≤ 1048576))) ∧ w = w' := by
  go_enter Try.func12, Try.ntmps12
  go_wp2
  all_goals
    go_ret
    exact ⟨congrArg (fun b => Ending.returned (.bool b)) (by simp; omega), rfl⟩

theorem zau_nil (f x : Nat) (hf : f < 2305843009213693952) (hx : x < 18446744073709551616) (w : World) :
    Calls Try.prog 14 #[.slice none 0 0, .int .i64 f, .int .u64 x] w fun e w' => ∃ v', e = .returned v' ∧ w'.ownsRow w.heap.size 5 1 v' (fU f x).length (Lib.byteCells (fU f x)) ∧ w.grownBy w' none :=
  (zau w.heap.size 0 f x hf hx (.slice none 0 0) [] w (World.ownsRow_nil _ _ _ _) (Nat.le_refl _) (by omega)).mono fun e w' ⟨v', he, ho, hg⟩ => ⟨v', he, by simpa using ho, hg.grown⟩

/-- all that the two clones and the two appends leave -/
structure Laid (w w4 : World) (n m : Nat) (l fu : List UInt8) (want out alone : Value) : Prop where
  bel : Below w.heap.size w w4
  want : Reads w4 want l
  out : Reads w4 out (l ++ fu)
  alone : Reads w4 alone fu

theorem Laid.mk' {w w1 w2 w3 w4 : World} {l fu : List UInt8} {B1 B2 v3 v4 : Value} (own1 : w1.ownsRow w.heap.size 5 1 B1 l.length (Lib.byteCells l)) (g1 : w.grownBy w1 none)
    (own2 : w2.ownsRow w1.heap.size 5 1 B2 l.length (Lib.byteCells l)) (g2 : w1.grownBy w2 none)
    (own3 : w3.ownsRow w.heap.size 5 1 v3 (l.length + fu.length) (Lib.byteCells l ++ Lib.byteCells fu)) (g3 : Gr w2 w3 B1 v3)
    (own4 : w4.ownsRow w3.heap.size 5 1 v4 fu.length (Lib.byteCells fu)) (g4 : w3.grownBy w4 none) : Laid w w4 l.length fu.length l fu B2 v3 v4 := by
  have a1 : w.heap.size ≤ w1.heap.size := g1.size
  have a2 : w1.heap.size ≤ w2.heap.size := g2.size
  have a3 : w2.heap.size ≤ w3.heap.size := g3.grown.size
  have b1 : Below w.heap.size w w1 := (Below.refl _ _).grown g1 (Nat.le_refl _) (fun k h => by simp at h)
  have b2 : Below w.heap.size w w2 := b1.grown g2 a1 (fun k h => by simp at h)
  have b3 : Below w.heap.size w w3 := b2.grown g3.grown (by omega) (fun k h => (own1.lt k h).1)
  have b4 : Below w.heap.size w w4 := b3.grown g4 (by omega) (fun k h => by simp at h)
  refine ⟨b4, ?_, ?_, Reads.of_owns own4⟩
  · have h3 : w3.ownsRow w1.heap.size 5 1 B2 l.length (Lib.byteCells l) := own2.kept g3.grown (by
      cases h : B2.ownBlock with
      | none => exact .inl rfl
      | some k =>
        refine .inr fun e => ?_
        have h2 := (own2.lt k h).1
        have h1 := (own1.lt k e.symm).2
        omega)
    exact Reads.of_owns (h3.kept g4 (by cases h : B2.ownBlock with
      | none => exact .inl rfl
      | some k => exact .inr (by simp)))
  · have h3 : w4.ownsRow w.heap.size 5 1 v3 (l.length + fu.length) (Lib.byteCells l ++ Lib.byteCells fu) := own3.kept g4 (by cases h : v3.ownBlock with
      | none => exact .inl rfl
      | some k => exact .inr (by simp))
    rw [← Lib.byteCells_append] at h3
    exact Reads.of_owns h3

theorem kept_none {w w' : World} {B n : Nat} {v : Value} {xs : List Value} (h : w.ownsRow B 5 1 v n xs) (g : w.grownBy w' none) : w'.ownsRow B 5 1 v n xs :=
  h.kept g (by cases h : v.ownBlock with
    | none => exact .inl rfl
    | some k => exact .inr (by simp))

theorem owns_shape {w : World} {B n : Nat} {v : Value} {xs : List Value} (h : w.ownsRow B 5 1 v n xs) (hn : 0 < n) : ∃ g cap, v = .slice (some ⟨g, 0, none⟩) n cap ∧ n ≤ cap ∧ cap ≤ maxLen := by
  rcases h.2 with ⟨_, h0⟩ | ⟨g, cap, cur, hv, _, _, h1, h2, _⟩
  · omega
  · exact ⟨g, cap, hv, h1, h2⟩
theorem owns_shape0 {w : World} {B n : Nat} {v : Value} {xs : List Value} (h : w.ownsRow B 5 1 v n xs) : ∃ ao cap, v = .slice ao n cap ∧ n ≤ cap ∧ cap ≤ maxLen := by
  rcases h.2 with ⟨hv, h0⟩ | ⟨g, cap, cur, hv, _, _, h1, h2, _⟩
  · exact ⟨none, 0, by rw [hv, h0], by omega, by unfold maxLen; omega⟩
  · exact ⟨_, cap, hv, h1, h2⟩

/-- the bytes behind the first n, through the slice cut there -/
theorem reads_tail {w : World} {g cap cap' : Nat} {l fu : List UInt8} {n m : Nat} (h : Reads w (.slice (some ⟨g, 0, none⟩) (n + m) cap) (l ++ fu)) (hn : n = l.length) (hm : m = fu.length) : Reads w (.slice (some ⟨g, n, none⟩) m cap') fu := by
  subst hn
  subst hm
  rcases Nat.eq_zero_or_pos fu.length with h0 | h0
  · exact .inl ⟨List.eq_nil_of_length_eq_zero h0, some ⟨g, l.length, none⟩, cap', by rw [h0]⟩
  · refine .inr ⟨h0, g, l.length, cap', rfl, fun j hj => ?_⟩
    rcases h with ⟨h1, _⟩ | ⟨_, b, off, cap2, hv, hc⟩
    · have := congrArg List.length h1; rw [List.length_append, List.length_nil] at this; omega
    · simp at hv
      obtain ⟨⟨rfl, rfl⟩, _, rfl⟩ := hv
      have hj2 : l.length + j < (l ++ fu).length := by rw [List.length_append]; omega
      have := hc (l.length + j) hj2
      rw [Nat.zero_add] at this
      rw [this, List.getElem_append_right (Nat.le_add_right _ _)]
      simp
theorem reads_at0 {w : World} {g cap n : Nat} {l : List UInt8} (h : Reads w (.slice (some ⟨g, 0, none⟩) n cap) l) : ∀ j (hj : j < l.length), w.cell? ⟨g, j, none⟩ = some (.int .u8 (l[j]).toNat) := by
  intro j hj
  rcases h with ⟨rfl, _⟩ | ⟨_, b, off, cap2, hv, hc⟩
  · simp at hj
  · simp at hv
    obtain ⟨⟨rfl, rfl⟩, _, rfl⟩ := hv
    have := hc j hj
    rwa [Nat.zero_add] at this

theorem bel_drewN {B : Nat} {a b : World} (h : Below B a b) (n : Nat) : Below B a (b.drewN n) := ⟨h.os, h.tape, h.output, h.size, h.block⟩

theorem drewN_drewN (w : World) (a b : Nat) : (w.drewN a).drewN b = w.drewN (a + b) := World.drewN_drewN w a b

/-- what the two calls of zzReadUvarint answer on the bytes that appendUint adds -/
theorem reads_back {w4 : World} {g o m c f x : Nat} {fu : List UInt8} (htl : Reads w4 (.slice (some ⟨g, o, none⟩) m c) fu) (hm : m = fu.length) (hfu : fu = fU f x) (hf : f < 2305843009213693952) (hx : x < 18446744073709551616) (hx0 : 0 < x) :
    ∃ T p : Nat, T < 18446744073709551616 ∧ (T : Int) / 8 = (f : Int) ∧ bits .and .u64 (T : Int) 7 = 0 ∧
      (∀ q, Calls Try.prog 11 #[.slice (some ⟨g, o, none⟩) m c, .int .i64 0] (w4.drewN q) fun e w' => e = .returned (.tuple #[.int .u64 T, .int .i64 p, .bool true]) ∧ w4.drewN q = w') ∧
      (∀ q, Calls Try.prog 11 #[.slice (some ⟨g, o, none⟩) m c, .int .i64 p] (w4.drewN q) fun e w' => e = .returned (.tuple #[.int .u64 x, .int .i64 m, .bool true]) ∧ w4.drewN q = w') := by
  have hne : x ≠ 0 := by omega
  have hfe : fu = Lib.uvarint (8 * f) ++ Lib.uvarint x := by rw [hfu, fU, if_neg hne]
  have hlen := fU_len f x hf hx
  rw [← hfu] at hlen
  have hp1 := Lib.uvarint_pos (8 * f)
  have hcell : ∀ j (hj : j < fu.length), w4.cell? ⟨g, o + j, none⟩ = some (.int .u8 (fu[j]).toNat) := by
    rcases htl with ⟨h1, _⟩ | ⟨_, b, off, cap2, hv, hc⟩
    · have := congrArg List.length hfe; rw [h1] at this; simp at this; omega
    · simp at hv
      obtain ⟨⟨rfl, rfl⟩, _, rfl⟩ := hv
      exact hc
  refine ⟨8 * f, (Lib.uvarint (8 * f)).length, by omega, by omega, ?_, fun q => ?_, fun q => ?_⟩
  · have h : bits .and .u64 ((8 * f : Nat) : Int) 7 = ((8 * f : Nat) : Int) % 8 := bits_mask .u64 64 (by decide) wraps_u64 3 (by decide) _ (by omega) (by omega)
    rw [h]
    omega
  · refine (rd g o m c fu (Lib.uvarint x) 0 (8 * f) (w4.drewN q) hm.symm (by omega) (by omega) hcell (by rw [hfe]; rfl)).mono ?_
    rintro e w' ⟨he, hw⟩
    exact ⟨by rw [he]; simp, hw.symm⟩
  · refine (rd g o m c fu [] (Lib.uvarint (8 * f)).length x (w4.drewN q) hm.symm (by omega) hx hcell (by rw [hfe]; simp)).mono ?_
    rintro e w' ⟨he, hw⟩
    refine ⟨?_, hw.symm⟩
    rw [he, hm, hfe, List.length_append]

set_option maxRecDepth 100000 in
set_option maxHeartbeats 400000 in
/-- b has elements -/
theorem coreP (a0 : Option Addr) (n cap f x m : Nat) (l fu : List UInt8) (w : World) (hl : n = l.length) (hm : m = fu.length) (hfu : fu = fU f x) (hn : n ≤ 1048576) (h0 : 0 < n) (hf : f < 2305843009213693952) (hx : x < 18446744073709551616) (hxm : (x = 0 ∧ m = 0) ∨ (0 < x ∧ 0 < m)) (hR : Reads w (.slice a0 n cap) l) :
    Calls Try.prog 4 #[.slice a0 n cap, .int .i64 f, .int .u64 x] w fun e w' => e = .returned (.bool true) ∧ Below w.heap.size w w' := by
  have hb := bytes12 a0 n cap f x (by omega) w
  rw [decide_eq_true hn] at hb
  have HF : Hid (f < 2305843009213693952) := hf
  have HX : Hid (x < 18446744073709551616) := hx
  have HL : Hid (n = l.length) := hl
  have HM : Hid (m = fu.length) := hm
  have hm20 : m ≤ 20 := by rw [hm, hfu]; exact fU_len f x hf hx
  have hcl : ∀ v W, Reads W v l → Calls Try.prog 13 #[v] W fun e w' => ∃ g, e = .returned (.slice (some ⟨g, 0, none⟩) n n) ∧ w'.ownsRow W.heap.size 5 1 (.slice (some ⟨g, 0, none⟩) n n) n (Lib.byteCells l) ∧ W.grownBy w' none := by
    intro v W h
    rw [hl]
    refine (clone v l W h (by omega)).mono ?_
    rintro e w' ⟨ao, he, ho, hg⟩
    obtain ⟨g, cap, hv, _⟩ := owns_shape ho (by omega)
    simp at hv
    obtain ⟨rfl, rfl⟩ := hv
    exact ⟨g, he, ho, hg⟩
  have hz1 : ∀ sv W, W.ownsRow w.heap.size 5 1 sv n (Lib.byteCells l) → w.heap.size ≤ W.heap.size → Calls Try.prog 14 #[sv, .int .i64 f, .int .u64 x] W fun e w' => ∃ g cap', e = .returned (.slice (some ⟨g, 0, none⟩) (n + m) cap') ∧ n + m ≤ cap' ∧ w'.ownsRow w.heap.size 5 1 (.slice (some ⟨g, 0, none⟩) (n + m) cap') (n + m) (Lib.byteCells l ++ Lib.byteCells fu) ∧ Gr W w' sv (.slice (some ⟨g, 0, none⟩) (n + m) cap') := by
    intro sv W ho hs
    rw [hm, hfu]
    refine (zau w.heap.size n f x hf hx sv _ W ho hs (by omega)).mono ?_
    rintro e w' ⟨v', he, ho', hg⟩
    obtain ⟨g, cap, hv, hc, _⟩ := owns_shape ho' (by omega)
    subst hv
    exact ⟨g, cap, he, hc, ho', hg⟩
  have hz2 : ∀ W, Calls Try.prog 14 #[.slice none 0 0, .int .i64 f, .int .u64 x] W fun e w' => ∃ ao cap', e = .returned (.slice ao m cap') ∧ w'.ownsRow W.heap.size 5 1 (.slice ao m cap') m (Lib.byteCells fu) ∧ W.grownBy w' none := by
    intro W
    rw [hm, hfu]
    refine (zau_nil f x hf hx W).mono ?_
    rintro e w' ⟨v', he, ho', hg⟩
    obtain ⟨g, cap, hv, hc, _⟩ := owns_shape0 ho'
    subst hv
    exact ⟨g, cap, he, ho', hg⟩
  clear hl hm hf hx
  go_enter Try.func4, Try.ntmps4
  go_wp2_with fail
  refine hb.mono ?_
  rintro e w' ⟨rfl, rfl⟩
  go_wp2_with fail
  · go_ret
    exact ⟨rfl, Below.refl _ _⟩
  rename 0 ≤ (f : Int) ∧ _ => hfx
  clear hfx
  refine (hcl _ _ hR).mono ?_
  rintro e w1 ⟨gb, rfl, own1, g1⟩
  go_wp2_with fail
  refine (hcl _ _ (Reads.of_owns own1)).mono ?_
  rintro e w2 ⟨gw, rfl, own2, g2⟩
  go_wp2_with fail
  refine (hz1 _ _ (kept_none own1 g2) (Nat.le_trans g1.size g2.size)).mono ?_
  rintro e w3 ⟨go, co, rfl, hco, own3, g3⟩
  go_wp2_with fail
  refine (hz2 _).mono ?_
  rintro e w4 ⟨aa, ca, rfl, own4, g4⟩
  have hL : Laid w w4 n m l fu (.slice (some ⟨gw, 0, none⟩) n n) (.slice (some ⟨go, 0, none⟩) (n + m) co) (.slice aa m ca) := by
    have e1 := HL.out
    have e2 := HM.out
    subst e1 e2
    exact Laid.mk' own1 g1 own2 g2 own3 g3 own4 g4
  clear own1 own2 own3 own4 g1 g2 g3 g4 hz1 hz2 hcl hb hR
  go_wp2_with fail
  go_loopw [10] (fun i wr => ∃ k : Nat, k ≤ n ∧ i = .int .i64 k ∧ ∃ q, wr = w4.drewN q) (fun i _ => n - (intOf i).toNat)
  case atStart => exact ⟨0, by omega, rfl, 0, rfl⟩
  case round =>
    obtain ⟨k, hk, rfl, q, rfl⟩ := hrel
    by_cases hlt : k < n
    · have hlk : k < l.length := by rw [← HL.out]; exact hlt
      have hck := reads_at0 hL.want k hlk
      have hck' := reads_at0 hL.out k (by rw [List.length_append]; omega)
      rw [List.getElem_append_left hlk] at hck'
      generalize l[k] = u at hck hck'
      have hi1 : (0 : Int) ≤ (k : Int) := by omega
      have hi2 : (k : Int) < (n : Int) := by omega
      have hi3 : (k : Int) < (n : Int) + (m : Int) := by omega
      clear hL
      go_wp2
      go_quiet (fail)
      go_wp2
      exact ⟨⟨k + 1, by omega, by go_num, _, rfl⟩, by simp [intOf]; omega⟩
    · have hkn : k = n := by omega
      subst hkn
      have hfl : fu.length ≤ 1048576 := by rw [← HM.out]; omega
      rcases hxm with ⟨hx0, hm0⟩ | ⟨hxp, hmp⟩
      · have hfe : fu = [] := List.eq_nil_of_length_eq_zero (by rw [← HM.out]; exact hm0)
        have hal := hL.alone
        rw [hfe] at hal
        have hbel := hL.bel
        clear hL
        have HX0 : Hid (x = 0) := hx0
        clear hx0
        go_wp2_with fail
        all_goals
          refine (equal_empty _ _ _ _ _).mono ?_
          rintro e w5 ⟨rfl, q2, rfl⟩
          have hx0 := HX0.out
          go_wp2
          go_ret
          exact ⟨rfl, bel_drewN hbel _⟩
      · have hco2 : k < co := by omega
        have htl := reads_tail (cap' := co - k) hL.out HL.out HM.out
        have hal := hL.alone
        have hbel := hL.bel
        clear hL
        obtain ⟨T, p, hTb, hT8, hT7, hr1, hr2⟩ := reads_back htl HM.out hfu HF.out HX.out hxp
        have hwf : IntKind.u64.wrap (f : Int) = (f : Int) := u64_wrap_id _ (by omega) (by have := HF.out; omega)
        go_wp2_with fail
        refine (equal _ _ fu _ (Reads.drewN htl _) (Reads.drewN hal _) hfl).mono ?_
        rintro e w5 ⟨rfl, q2, rfl⟩
        go_wp2_with fail
        refine (hr1 _).mono ?_
        rintro e w6 ⟨rfl, rfl⟩
        go_wp2_with fail
        refine (hr2 _).mono ?_
        rintro e w7 ⟨rfl, rfl⟩
        go_wp2
        go_ret
        exact ⟨rfl, bel_drewN hbel _⟩

set_option maxRecDepth 100000 in
set_option maxHeartbeats 400000 in
/-- b has no elements, v is not 0 -/
theorem coreZ1 (a0 : Option Addr) (cap f x m : Nat) (l fu : List UInt8) (w : World) (hl : 0 = l.length) (hm : m = fu.length) (hfu : fu = fU f x) (hf : f < 2305843009213693952) (hx : x < 18446744073709551616) (hxp : 0 < x) (hmp : 0 < m) (hR : Reads w (.slice a0 0 cap) l) :
    Calls Try.prog 4 #[.slice a0 0 cap, .int .i64 f, .int .u64 x] w fun e w' => e = .returned (.bool true) ∧ Below w.heap.size w w' := by
  have hb := bytes12 a0 0 cap f x (by omega) w
  rw [decide_eq_true (by omega)] at hb
  have HF : Hid (f < 2305843009213693952) := hf
  have HX : Hid (x < 18446744073709551616) := hx
  have HL : Hid (0 = l.length) := hl
  have HM : Hid (m = fu.length) := hm
  have hm20 : m ≤ 20 := by rw [hm, hfu]; exact fU_len f x hf hx
  have hcl : ∀ v W, Reads W v l → Calls Try.prog 13 #[v] W fun e w' => ∃ ao, e = .returned (.slice ao 0 0) ∧ w'.ownsRow W.heap.size 5 1 (.slice ao 0 0) 0 (Lib.byteCells l) ∧ W.grownBy w' none := by
    intro v W h
    rw [hl]
    exact clone v l W h (by omega)
  have hz1 : ∀ sv W, W.ownsRow w.heap.size 5 1 sv 0 (Lib.byteCells l) → w.heap.size ≤ W.heap.size → Calls Try.prog 14 #[sv, .int .i64 f, .int .u64 x] W fun e w' => ∃ g cap', e = .returned (.slice (some ⟨g, 0, none⟩) m cap') ∧ m ≤ cap' ∧ w'.ownsRow w.heap.size 5 1 (.slice (some ⟨g, 0, none⟩) m cap') (0 + m) (Lib.byteCells l ++ Lib.byteCells fu) ∧ Gr W w' sv (.slice (some ⟨g, 0, none⟩) m cap') := by
    intro sv W ho hs
    rw [hm, hfu]
    refine (zau w.heap.size 0 f x hf hx sv _ W ho hs (by omega)).mono ?_
    rintro e w' ⟨v', he, ho', hg⟩
    obtain ⟨g, cap, hv, hc, _⟩ := owns_shape ho' (by rw [← hfu]; omega)
    rw [Nat.zero_add] at hv hc
    subst hv
    exact ⟨g, cap, he, hc, ho', hg⟩
  have hz2 : ∀ W, Calls Try.prog 14 #[.slice none 0 0, .int .i64 f, .int .u64 x] W fun e w' => ∃ ao cap', e = .returned (.slice ao m cap') ∧ w'.ownsRow W.heap.size 5 1 (.slice ao m cap') m (Lib.byteCells fu) ∧ W.grownBy w' none := by
    intro W
    rw [hm, hfu]
    refine (zau_nil f x hf hx W).mono ?_
    rintro e w' ⟨v', he, ho', hg⟩
    obtain ⟨g, cap, hv, hc, _⟩ := owns_shape0 ho'
    subst hv
    exact ⟨g, cap, he, ho', hg⟩
  clear hl hm hf hx
  go_enter Try.func4, Try.ntmps4
  go_wp2_with fail
  refine hb.mono ?_
  rintro e w' ⟨rfl, rfl⟩
  go_wp2_with fail
  · go_ret
    exact ⟨rfl, Below.refl _ _⟩
  rename 0 ≤ (f : Int) ∧ _ => hfx
  clear hfx
  refine (hcl _ _ hR).mono ?_
  rintro e w1 ⟨gb, rfl, own1, g1⟩
  go_wp2_with fail
  refine (hcl _ _ (Reads.of_owns own1)).mono ?_
  rintro e w2 ⟨gw, rfl, own2, g2⟩
  go_wp2_with fail
  refine (hz1 _ _ (kept_none own1 g2) (Nat.le_trans g1.size g2.size)).mono ?_
  rintro e w3 ⟨go, co, rfl, hco, own3, g3⟩
  go_wp2_with fail
  refine (hz2 _).mono ?_
  rintro e w4 ⟨aa, ca, rfl, own4, g4⟩
  have hL : Laid w w4 0 m l fu (.slice gw 0 0) (.slice (some ⟨go, 0, none⟩) m co) (.slice aa m ca) := by
    have e1 := HL.out
    have e2 := HM.out
    have h := Laid.mk' (l := l) (fu := fu) (e1 ▸ own1) g1 (e1 ▸ own2) g2 (e1 ▸ e2 ▸ own3) g3 (e2 ▸ own4) g4
    rw [← e1, ← e2] at h
    exact h
  clear own1 own2 own3 own4 g1 g2 g3 g4 hz1 hz2 hcl hb hR
  have hfl : fu.length ≤ 1048576 := by rw [← HM.out]; omega
  have hle : l = [] := List.eq_nil_of_length_eq_zero HL.out.symm
  have htl := hL.out
  rw [hle, List.nil_append] at htl
  have hal := hL.alone
  have hbel := hL.bel
  clear hL hle
  obtain ⟨T, p, hTb, hT8, hT7, hr1, hr2⟩ := reads_back htl HM.out hfu HF.out HX.out hxp
  have hwf : IntKind.u64.wrap (f : Int) = (f : Int) := u64_wrap_id _ (by omega) (by have := HF.out; omega)
  go_wp2_with fail
  go_loopw [10] (fun i wr => i = .int .i64 0 ∧ ∃ q, wr = w4.drewN q) (fun _ _ => 0)
  case atStart => exact ⟨rfl, 0, rfl⟩
  case round =>
    obtain ⟨rfl, q, rfl⟩ := hrel
    go_wp2_with fail
    refine (equal _ _ fu _ (Reads.drewN htl _) (Reads.drewN hal _) hfl).mono ?_
    rintro e w5 ⟨rfl, q2, rfl⟩
    go_wp2_with fail
    refine (hr1 _).mono ?_
    rintro e w6 ⟨rfl, rfl⟩
    go_wp2_with fail
    refine (hr2 _).mono ?_
    rintro e w7 ⟨rfl, rfl⟩
    go_wp2
    go_ret
    exact ⟨rfl, bel_drewN hbel _⟩

set_option maxRecDepth 100000 in
set_option maxHeartbeats 400000 in
/-- b has no elements, v is 0 -/
theorem coreZ0 (a0 : Option Addr) (cap f : Nat) (l : List UInt8) (w : World) (hl : 0 = l.length) (hf : f < 2305843009213693952) (hR : Reads w (.slice a0 0 cap) l) :
    Calls Try.prog 4 #[.slice a0 0 cap, .int .i64 f, .int .u64 0] w fun e w' => e = .returned (.bool true) ∧ Below w.heap.size w w' := by
  have hb := bytes12 a0 0 cap f 0 (by omega) w
  rw [decide_eq_true (by omega)] at hb
  have HF : Hid (f < 2305843009213693952) := hf
  have HL : Hid (0 = l.length) := hl
  have hfe : fU f 0 = [] := rfl
  have hcl : ∀ v W, Reads W v l → Calls Try.prog 13 #[v] W fun e w' => ∃ ao, e = .returned (.slice ao 0 0) ∧ w'.ownsRow W.heap.size 5 1 (.slice ao 0 0) 0 (Lib.byteCells l) ∧ W.grownBy w' none := by
    intro v W h
    rw [hl]
    exact clone v l W h (by omega)
  have hz1 : ∀ sv W, W.ownsRow w.heap.size 5 1 sv 0 (Lib.byteCells l) → w.heap.size ≤ W.heap.size → Calls Try.prog 14 #[sv, .int .i64 f, .int .u64 0] W fun e w' => ∃ ao cap', e = .returned (.slice ao 0 cap') ∧ w'.ownsRow w.heap.size 5 1 (.slice ao 0 cap') (0 + 0) (Lib.byteCells l ++ Lib.byteCells []) ∧ Gr W w' sv (.slice ao 0 cap') := by
    intro sv W ho hs
    refine (zau w.heap.size 0 f 0 hf (by omega) sv _ W ho hs (by omega)).mono ?_
    rintro e w' ⟨v', he, ho', hg⟩
    obtain ⟨g, cap, hv, hc, _⟩ := owns_shape0 ho'
    rw [hfe] at hv ho'
    simp at hv
    subst hv
    exact ⟨g, cap, he, ho', hg⟩
  have hz2 : ∀ W, Calls Try.prog 14 #[.slice none 0 0, .int .i64 f, .int .u64 0] W fun e w' => ∃ ao cap', e = .returned (.slice ao 0 cap') ∧ w'.ownsRow W.heap.size 5 1 (.slice ao 0 cap') 0 (Lib.byteCells []) ∧ W.grownBy w' none := by
    intro W
    refine (zau_nil f 0 hf (by omega) W).mono ?_
    rintro e w' ⟨v', he, ho', hg⟩
    obtain ⟨g, cap, hv, hc, _⟩ := owns_shape0 ho'
    rw [hfe] at hv ho'
    simp at hv
    subst hv
    exact ⟨g, cap, he, ho', hg⟩
  clear hl hf hfe
  go_enter Try.func4, Try.ntmps4
  go_wp2_with fail
  refine hb.mono ?_
  rintro e w' ⟨rfl, rfl⟩
  go_wp2_with fail
  · go_ret
    exact ⟨rfl, Below.refl _ _⟩
  rename 0 ≤ (f : Int) ∧ _ => hfx
  clear hfx
  refine (hcl _ _ hR).mono ?_
  rintro e w1 ⟨gb, rfl, own1, g1⟩
  go_wp2_with fail
  refine (hcl _ _ (Reads.of_owns own1)).mono ?_
  rintro e w2 ⟨gw, rfl, own2, g2⟩
  go_wp2_with fail
  refine (hz1 _ _ (kept_none own1 g2) (Nat.le_trans g1.size g2.size)).mono ?_
  rintro e w3 ⟨go, co, rfl, own3, g3⟩
  go_wp2_with fail
  refine (hz2 _).mono ?_
  rintro e w4 ⟨aa, ca, rfl, own4, g4⟩
  have hbel : Below w.heap.size w w4 := by
    have e1 := HL.out
    have h := Laid.mk' (l := l) (fu := []) (e1 ▸ own1) g1 (e1 ▸ own2) g2 (e1 ▸ own3) g3 own4 g4
    exact h.bel
  clear own1 own2 own3 own4 g1 g2 g3 g4 hz1 hz2 hcl hb hR
  go_wp2_with fail
  go_loopw [10] (fun i wr => i = .int .i64 0 ∧ ∃ q, wr = w4.drewN q) (fun _ _ => 0)
  case atStart => exact ⟨rfl, 0, rfl⟩
  case round =>
    obtain ⟨rfl, q, rfl⟩ := hrel
    cases go with
    | none =>
      go_wp2_with fail
      refine (equal_empty _ _ _ _ _).mono ?_
      rintro e w5 ⟨rfl, q2, rfl⟩
      go_wp2
      go_ret
      exact ⟨rfl, bel_drewN hbel _⟩
    | some g =>
      go_wp2_with fail
      all_goals
        refine (equal_empty _ _ _ _ _).mono ?_
        rintro e w5 ⟨rfl, q2, rfl⟩
        go_wp2
        go_ret
        exact ⟨rfl, bel_drewN hbel _⟩

theorem fU_pos (f x : Nat) (hx : 0 < x) : 0 < (fU f x).length := by
  have h := Lib.uvarint_pos (8 * f)
  unfold fU
  rw [if_neg (by omega), List.length_append]
  omega

/-- the field is out of its range: the law says true at once -/
theorem farNeg (a0 : Option Addr) (n cap : Nat) (f x : Int) (w : World) (hn : n ≤ 1048576) (hf : f < 0) :
    Calls Try.prog 4 #[.slice a0 n cap, .int .i64 f, .int .u64 x] w fun e w' => e = .returned (.bool true) ∧ Below w.heap.size w w' := by
  have hb := bytes12 a0 n cap f x (by omega) w
  rw [decide_eq_true hn] at hb
  go_enter Try.func4, Try.ntmps4
  go_wp2_with fail
  refine hb.mono ?_
  rintro e w' ⟨rfl, rfl⟩
  go_wp2_with fail
  go_ret
  exact ⟨rfl, Below.refl _ _⟩

theorem farPos (a0 : Option Addr) (n cap f : Nat) (x : Int) (w : World) (hn : n ≤ 1048576) (hf : 2305843009213693952 ≤ f) (hf2 : f ≤ 9223372036854775807) :
    Calls Try.prog 4 #[.slice a0 n cap, .int .i64 f, .int .u64 x] w fun e w' => e = .returned (.bool true) ∧ Below w.heap.size w w' := by
  have hb := bytes12 a0 n cap f x (by omega) w
  rw [decide_eq_true hn] at hb
  have HF : Hid (2305843009213693952 ≤ f) := hf
  have HF2 : Hid (f ≤ 9223372036854775807) := hf2
  clear hf hf2
  go_enter Try.func4, Try.ntmps4
  go_wp2_with fail
  refine hb.mono ?_
  rintro e w' ⟨rfl, rfl⟩
  go_wp2_with fail
  · go_ret
    exact ⟨rfl, Below.refl _ _⟩
  · exfalso
    rename 0 ≤ (f : Int) ∧ _ => hfx
    have h1 := HF.out
    have h2 := HF2.out
    rw [u64_wrap_id _ hfx.1 (by omega)] at hfx
    omega

/-- b is longer than the bound: the law says true at once -/
theorem long (a0 : Option Addr) (n cap : Nat) (f x : Int) (w : World) (hn : ¬ n ≤ 1048576) (hn2 : n ≤ 9223372036854775807) :
    Calls Try.prog 4 #[.slice a0 n cap, .int .i64 f, .int .u64 x] w fun e w' => e = .returned (.bool true) ∧ Below w.heap.size w w' := by
  have hb := bytes12 a0 n cap f x hn2 w
  rw [decide_eq_false hn] at hb
  go_enter Try.func4, Try.ntmps4
  go_wp2_with fail
  refine hb.mono ?_
  rintro e w' ⟨rfl, rfl⟩
  go_wp2
  go_ret
  exact ⟨rfl, Below.refl _ _⟩

theorem all (a0 : Option Addr) (n cap f x : Nat) (l : List UInt8) (w : World) (hl : n = l.length) (hn : n ≤ 1048576) (hf : f < 2305843009213693952) (hx : x < 18446744073709551616) (hR : Reads w (.slice a0 n cap) l) :
    Calls Try.prog 4 #[.slice a0 n cap, .int .i64 f, .int .u64 x] w fun e w' => e = .returned (.bool true) ∧ Below w.heap.size w w' := by
  have hxm : (x = 0 ∧ (fU f x).length = 0) ∨ (0 < x ∧ 0 < (fU f x).length) := by
    rcases Nat.eq_zero_or_pos x with h | h
    · subst h; exact .inl ⟨rfl, rfl⟩
    · exact .inr ⟨h, fU_pos f x h⟩
  rcases Nat.eq_zero_or_pos n with h0 | h0
  · subst h0
    rcases hxm with ⟨h1, _⟩ | ⟨h1, h2⟩
    · subst h1
      exact coreZ0 a0 cap f l w hl hf hR
    · exact coreZ1 a0 cap f x _ l _ w hl rfl rfl hf hx h1 h2 hR
  · exact coreP a0 n cap f x _ l _ w hl rfl rfl hn h0 hf hx hxm hR

#print axioms all
end Go.Proofs.Qxb6619700a.AU
