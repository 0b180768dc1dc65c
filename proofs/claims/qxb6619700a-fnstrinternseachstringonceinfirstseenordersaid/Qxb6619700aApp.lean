/- The shared contracts of the seat, third part: appendUint, appendBytes and their shims onto a slice of the call's own. -/
import Derived.Test.Qxb6619700aVar
namespace Go.Proofs.Qxb6619700a
open Go.RowKit

/-- what appendUint adds -/
def fU (f x : Nat) : List UInt8 := if x = 0 then [] else Lib.uvarint (8 * f) ++ Lib.uvarint x
/-- what appendBytes adds -/
def fB (f : Nat) (l : List UInt8) : List UInt8 := Lib.uvarint (8 * f + 2) ++ (Lib.uvarint l.length ++ l)

theorem fU_len (f x : Nat) (hf : f < 2305843009213693952) (hx : x < 18446744073709551616) : (fU f x).length ≤ 20 := by
  unfold fU
  split
  · simp
  · have h1 := Lib.uvarint_length64 (x := 8 * f) (by omega)
    have h2 := Lib.uvarint_length64 hx
    simp; omega

theorem or_tag0 (f : Nat) (hf : f < 2305843009213693952) : bits .or .u64 ((f : Int) * 8) 0 = ((8 * f : Nat) : Int) := by
  have h := (bits_nat .u64 64 (by decide) wraps_u64 (8 * f) 0 (by omega) (by decide)).2
  rw [Nat.or_zero] at h
  rw [← h]
  congr 1
  omega
theorem or_tag2 (f : Nat) (hf : f < 2305843009213693952) : bits .or .u64 ((f : Int) * 8) 2 = ((8 * f + 2 : Nat) : Int) := by
  have h := (bits_nat .u64 64 (by decide) wraps_u64 (8 * f) 2 (by omega) (by decide)).2
  have e : 8 * f ||| 2 = 8 * f + 2 := by
    have := Nat.two_pow_add_eq_or_of_lt (i := 3) (b := 2) (by decide) f
    exact this.symm
  rw [e] at h
  rw [← h]
  congr 1
  omega

set_option maxRecDepth 100000 in
theorem au (B n f x : Nat) (hf : f < 2305843009213693952) (hx : x < 18446744073709551616) (sv : Value) (xs : List Value) (w : World) (hown : w.ownsRow B 5 1 sv n xs) (hBw : B ≤ w.heap.size) (hlim : n + 20 ≤ 140737488355328) :
    Calls Try.prog 19 #[sv, .int .i64 f, .int .u64 x] w fun e w' => ∃ v', e = .returned v' ∧ w'.ownsRow B 5 1 v' (n + (fU f x).length) (xs ++ Lib.byteCells (fU f x)) ∧ Gr w w' sv v' := by
  by_cases hx0 : x = 0
  · subst hx0
    go_enter Try.func19, Try.ntmps19
    go_wp2
    go_ret
    exact ⟨sv, rfl, by simpa [fU, Lib.byteCells] using hown, Gr.refl _ _⟩
  · obtain ⟨T, hT⟩ : ∃ T, T = 8 * f := ⟨_, rfl⟩
    have hor := or_tag0 f hf
    rw [← hT] at hor
    have hxp : 0 < x := by omega
    have HU : Hid (fU f x = Lib.uvarint T ++ Lib.uvarint x) := by show fU f x = _; simp [fU, hx0, hT]
    have hTb : T < 18446744073709551616 := by omega
    clear hT
    have hl1 := Lib.uvarint_length64 hTb
    go_enter Try.func19, Try.ntmps19
    go_wp2_with fail
    refine (auv B n T hTb sv xs _ hown hBw (by omega)).mono ?_
    rintro e w1 ⟨v1, rfl, hown1, hgr1⟩
    go_wp2_with fail
    refine (auv B _ x hx v1 _ _ hown1 (Nat.le_trans hBw hgr1.grown.size) (by omega)).mono ?_
    rintro e w2 ⟨v2, rfl, hown2, hgr2⟩
    go_wp2
    go_ret
    refine ⟨v2, rfl, ?_, hgr1.trans hgr2⟩
    rw [HU.out, Lib.byteCells_append, ← List.append_assoc, List.length_append, ← Nat.add_assoc]
    exact hown2

set_option maxRecDepth 100000 in
theorem zau (B n f x : Nat) (hf : f < 2305843009213693952) (hx : x < 18446744073709551616) (sv : Value) (xs : List Value) (w : World) (hown : w.ownsRow B 5 1 sv n xs) (hBw : B ≤ w.heap.size) (hlim : n + 20 ≤ 140737488355328) :
    Calls Try.prog 14 #[sv, .int .i64 f, .int .u64 x] w fun e w' => ∃ v', e = .returned v' ∧ w'.ownsRow B 5 1 v' (n + (fU f x).length) (xs ++ Lib.byteCells (fU f x)) ∧ Gr w w' sv v' := by
  go_enter Try.func14, Try.ntmps14
  go_wp2_with fail
  refine (au B n f x hf hx sv xs _ hown hBw hlim).mono ?_
  rintro e w1 ⟨v1, rfl, hown1, hgr1⟩
  go_wp2
  go_ret
  exact ⟨v1, rfl, hown1, hgr1⟩

theorem bytes_news {w : World} {ad : Addr} {l : List UInt8} (hc : ∀ j (hj : j < l.length), w.cell? (ad.add j) = some (.int .u8 (l[j]).toNat)) : ∀ j u, (Lib.byteCells l)[j]? = some u → w.cell? (ad.add j) = some u := by
  intro j u h
  rw [List.getElem?_eq_some_iff] at h
  obtain ⟨hj, rfl⟩ := h
  have hj' : j < l.length := by simpa [Lib.byteCells] using hj
  rw [hc j hj']
  simp [Lib.byteCells]
theorem bytes_one (l : List UInt8) : ∀ u ∈ Lib.byteCells l, u.oneCell' = true := by
  intro u hu
  simp only [Lib.byteCells, List.mem_map] at hu
  obtain ⟨b, _, rfl⟩ := hu
  rfl
theorem add_block (ad : Addr) (j : Nat) : (ad.add j).block = ad.block := by unfold Addr.add; split <;> rfl
/-- cells of a block that is not the row appended to are as they were -/
theorem Gr.cells {w w' : World} {v v' : Value} (h : Gr w w' v v') {ad : Addr} {l : List UInt8} (hb : v.ownBlock ≠ some ad.block)
    (hc : ∀ j (hj : j < l.length), w.cell? (ad.add j) = some (.int .u8 (l[j]).toNat)) : ∀ j (hj : j < l.length), w'.cell? (ad.add j) = some (.int .u8 (l[j]).toNat) := by
  intro j hj
  refine h.grown.cell (hc j hj) (fun e => hb ?_)
  rw [← e, add_block]
theorem addr_lt {w : World} {ad : Addr} {l : List UInt8} (h0 : 0 < l.length) (hc : ∀ j (hj : j < l.length), w.cell? (ad.add j) = some (.int .u8 (l[j]).toNat)) : ad.block < w.heap.size := by
  have h := World.block_lt_of_cell? w _ (hc 0 h0)
  rw [add_block] at h
  exact h
theorem Gr.apart {w w' : World} {v v' : Value} (h : Gr w w' v v') {k : Nat} (hb : v.ownBlock ≠ some k) (hk : k < w.heap.size) : v'.ownBlock ≠ some k := by
  intro e
  rcases h.lies k e with h1 | h1
  · exact hb h1
  · omega

set_option maxRecDepth 100000 in
set_option maxHeartbeats 1000000 in
theorem ab (B n f : Nat) (l : List UInt8) (ad : Addr) (c : Nat) (hf : f < 2305843009213693952) (hl : l.length ≤ 1073741824) (sv : Value) (xs : List Value) (w : World) (hown : w.ownsRow B 5 1 sv n xs) (hBw : B ≤ w.heap.size) (hlim : n + 20 + l.length ≤ 140737488355328)
    (hb : sv.ownBlock ≠ some ad.block) (hc : ∀ j (hj : j < l.length), w.cell? (ad.add j) = some (.int .u8 (l[j]).toNat)) :
    Calls Try.prog 20 #[sv, .int .i64 f, .slice (some ad) l.length c] w fun e w' => ∃ v', e = .returned v' ∧ w'.ownsRow B 5 1 v' (n + (fB f l).length) (xs ++ Lib.byteCells (fB f l)) ∧ Gr w w' sv v' := by
  obtain ⟨i0, hi, hz0, hz1, hz2⟩ := info_parts info5
  obtain ⟨T, hT⟩ : ∃ T, T = 8 * f + 2 := ⟨_, rfl⟩
  have hor := or_tag2 f hf
  rw [← hT] at hor
  obtain ⟨m, hm⟩ : ∃ m, m = l.length := ⟨_, rfl⟩
  have HB : Hid (fB f l = Lib.uvarint T ++ (Lib.uvarint m ++ l)) := by show fB f l = _; simp [fB, hT, hm]
  have hTb : T < 18446744073709551616 := by omega
  clear hT
  have hl1 := Lib.uvarint_length64 hTb
  have hl2 := Lib.uvarint_length64 (x := m) (by omega)
  rw [← hm]
  have HM : Hid (m = l.length) := hm
  have hmb : m ≤ 1073741824 := by omega
  have hlim2 : n + 20 + m ≤ 140737488355328 := by omega
  clear hm hl hlim
  go_enter Try.func20, Try.ntmps20
  go_wp2_with fail
  refine (auv B n T hTb sv xs _ hown hBw (by omega)).mono ?_
  rintro e w1 ⟨v1, rfl, hown1, hgr1⟩
  go_wp2_with fail
  refine (auv B _ m (by omega) v1 _ _ hown1 (Nat.le_trans hBw hgr1.grown.size) (by omega)).mono ?_
  rintro e w2 ⟨v2, rfl, hown2, hgr2⟩
  have hgr := hgr1.trans hgr2
  have hc2 := hgr.cells hb hc
  have hBw2 := Nat.le_trans hBw hgr.grown.size
  clear hgr1 hgr2 hown1
  go_wp2_with (at_builtin; refine wpList_append_own_at _ rfl _ _ 29 rfl B 5 i0 (.int .u8 0) 1 1 Try.underlying29 hi hz0 hz1 hz2 rfl (by decide) _ _ _ rfl hown2 ad m c (Lib.byteCells l) rfl ?c0 ?c1 ?c2 ?c3 ?c4 ?c5 ?_)
  case c0 => rw [Lib.byteCells_length, HM.out]; simp
  case c1 => exact bytes_news hc2
  case c2 => exact bytes_one l
  case c3 => unfold maxLen; omega
  case c4 => omega
  case c5 => exact hBw2
  intro v3 w3 hown3 hgrow _ hat
  have hgr3 : Gr w2 w3 v2 v3 := ⟨hgrow, fun g hg => by
    rcases hat with h1 | h1
    · exact .inl (h1.symm.trans hg)
    · rw [h1] at hg; simp at hg; right; omega⟩
  clear hgrow hat
  go_wp2
  go_ret
  refine ⟨v3, rfl, ?_, hgr.trans hgr3⟩
  rw [HB.out, Lib.byteCells_append, Lib.byteCells_append, List.length_append, List.length_append, ← HM.out, ← Nat.add_assoc, ← Nat.add_assoc]
  exact hown3

set_option maxRecDepth 100000 in
theorem zab (B n f : Nat) (l : List UInt8) (ad : Addr) (c : Nat) (hf : f < 2305843009213693952) (hl : l.length ≤ 1073741824) (sv : Value) (xs : List Value) (w : World) (hown : w.ownsRow B 5 1 sv n xs) (hBw : B ≤ w.heap.size) (hlim : n + 20 + l.length ≤ 140737488355328)
    (hb : sv.ownBlock ≠ some ad.block) (hc : ∀ j (hj : j < l.length), w.cell? (ad.add j) = some (.int .u8 (l[j]).toNat)) :
    Calls Try.prog 17 #[sv, .int .i64 f, .slice (some ad) l.length c] w fun e w' => ∃ v', e = .returned v' ∧ w'.ownsRow B 5 1 v' (n + (fB f l).length) (xs ++ Lib.byteCells (fB f l)) ∧ Gr w w' sv v' := by
  have h := ab B n f l ad c hf hl sv xs w hown hBw hlim hb hc
  obtain ⟨m, hm⟩ : ∃ m, m = l.length := ⟨_, rfl⟩
  rw [← hm] at h ⊢
  clear hm hc hlim hl
  go_enter Try.func17, Try.ntmps17
  go_wp2_with fail
  refine h.mono ?_
  rintro e w1 ⟨v1, rfl, hown1, hgr1⟩
  go_wp2
  go_ret
  exact ⟨v1, rfl, hown1, hgr1⟩

#print axioms zau
#print axioms zab
end Go.Proofs.Qxb6619700a
