/- FnClosesRunReadsEveryClosingByte: the walk. -/
import Derived.Test.Qxb6619751aNx
import Derived.Laws.CopyOwn
import Derived.Deep.OwnRows
import Derived.Deep.Light
import Derived.Deep.CutRange
namespace Go.Proofs.Qxb6619751a
open Go.RowKit

theorem info5 : (Try.prog.info? 5).map (fun i => (i.zero, i.size, i.bytes)) = some (some (.int .u8 0), 1, 1) := by kernel_rfl
theorem size5 : (Try.prog.info? 5).map (·.size) = some 1 := by kernel_rfl

theorem bytes4 (a : Option Addr) (n cap : Nat) (x y z : Int) (hn : n ≤ 9223372036854775807) (w : World) :
    Calls Try.prog 4 #[.slice a n cap, .int .i64 x, .int .i64 y, .int .u8 z] w fun e w' => e = .returned (.bool (decide (n ≤ 1048576))) ∧ w = w' := by
  go_enter Try.func4, Try.ntmps4
  go_wp2
  all_goals
    go_ret
    exact ⟨congrArg (fun b => Ending.returned (.bool b)) (by simp; omega), rfl⟩

theorem space_any (b : UInt8) (w : World) : Calls Try.prog 5 #[.int .u8 b.toNat] w fun e w' => e = .returned (.bool (isSp b)) ∧ w = w' := by
  rcases sp_cases b with ⟨hs, hv⟩ | ⟨hs, h1, h2, h3, h4⟩
  · rw [hs]
    rcases hv with hv | hv | hv | hv
    all_goals
      rw [hv]
      go_enter Try.func5, Try.ntmps5
      go_wp2
      go_ret
      exact ⟨rfl, rfl⟩
  · rw [hs]
    have g1 : ((b.toNat : Int) == 32) = false := by simpa using h1
    have g2 : ((b.toNat : Int) == 9) = false := by simpa using h2
    have g3 : ((b.toNat : Int) == 10) = false := by simpa using h3
    have g4 : ((b.toNat : Int) == 13) = false := by simpa using h4
    clear h1 h2 h3 h4
    go_enter Try.func5, Try.ntmps5
    go_wp2
    go_ret
    exact ⟨rfl, rfl⟩

/-- the depth behind k closings -/
def dk (D : Int) (k : Nat) : Int := wrap64 (D + k)
theorem dk_zero {D : Int} (h1 : -9223372036854775808 ≤ D) (h2 : D ≤ 9223372036854775807) : dk D 0 = D := by
  unfold dk wrap64; simp; omega
theorem dk_succ (D : Int) (k : Nat) : wrap64 (dk D k + 1) = dk D (k + 1) := by
  unfold dk wrap64; simp; omega

theorem Txt.mono {W W' : World} {ao : Option Addr} {n : Nat} {l : List UInt8} (h : Txt W ao n l) (hb : Below W.heap.size W W') : Txt W' ao n l :=
  ⟨h.1, fun k hk => by
    obtain ⟨b, off, h1, h2, h3⟩ := h.2 k hk
    exact ⟨b, off, h1, Nat.lt_of_lt_of_le h2 hb.size, (hb.cell (p := ⟨b, off + k, none⟩) h2).trans h3⟩⟩

/-- the copy: a new slice with the same bytes -/
theorem copy_run (w : World) (x : Addr) (n cp : Nat) (l : List UInt8) (hT : Txt w (some x) n l) (hn : n ≤ 1048576) :
    ∃ W2, (∀ ty, (Builtin.copy_ #[22, 22] ty #[.slice (some ⟨w.heap.size, 0, none⟩) n n, .slice (some x) n cp]).run Try.prog (w.alloc (.cells (madeCells #[.int .u8 0] n) 5)) = .ok (goInt n) W2) ∧ Txt W2 (some ⟨w.heap.size, 0, none⟩) n l ∧ Below w.heap.size w W2 := by
  rcases Nat.eq_zero_or_pos n with h0 | h0
  · subst h0
    have hl : l = [] := List.eq_nil_of_length_eq_zero hT.1
    subst hl
    refine ⟨_, fun ty => run_copy_none (P := Try.prog) _ 22 22 ty 5 _ _ 0 0 0 cp Try.underlying22 size5 (by simp), ⟨rfl, fun k hk => by simp at hk⟩, (Below.refl _ _).alloc (Nat.le_refl _) _⟩
  · have hl := hT.1
    obtain ⟨b, off, hx, hb, _⟩ := hT.2 0 (by omega)
    obtain rfl : x = ⟨b, off, none⟩ := by simpa using hx
    obtain ⟨cs, hcs⟩ : ∃ cs : List Value, cs = l.map (fun u => Value.int .u8 u.toNat) := ⟨_, rfl⟩
    have hcl : cs.length = n := by rw [hcs]; simpa using hl
    have hcw : ∀ k (hk : k < l.length), (w.alloc (.cells (madeCells #[.int .u8 0] n) 5)).cell? ⟨b, off + k, none⟩ = some (.int .u8 (l[k]).toNat) := by
      intro k hk
      obtain ⟨b', off', hx', _, hc⟩ := hT.2 k hk
      simp at hx'
      obtain ⟨rfl, rfl⟩ := hx'
      exact (((Below.refl w.heap.size w).alloc (Nat.le_refl _) _).cell (p := ⟨b, off + k, none⟩) hb).trans hc
    have hsz : (madeCells #[Value.int .u8 0] n).size = n := by rw [← Array.length_toList, toList_madeCells_one]; simp
    have hr := fun ty => run_copy_row (P := Try.prog) (w.alloc (.cells (madeCells #[.int .u8 0] n) 5)) 22 22 ty 5 w.heap.size 0 n n ⟨b, off, none⟩ n cp (madeCells #[.int .u8 0] n) 5 cs Try.underlying22 size5 (heap_alloc_new w _) (by rw [hcl]; simp)
      (by
        intro j v hj
        rw [List.getElem?_eq_some_iff] at hj
        obtain ⟨hj1, rfl⟩ := hj
        have hj2 : j < l.length := by omega
        have e : (⟨b, off, none⟩ : Addr).add j = ⟨b, off + j, none⟩ := by unfold Addr.add; split <;> simp_all
        rw [e, hcw j hj2]
        simp [hcs])
      (by omega) (by
        intro v hv
        rw [hcs, List.mem_map] at hv
        obtain ⟨u, _, rfl⟩ := hv
        rfl)
    rw [hcl] at hr
    refine ⟨_, hr, ⟨hl, fun k hk => ⟨w.heap.size, 0, rfl, ?_, ?_⟩⟩, below_setRow ((Below.refl _ _).alloc (Nat.le_refl _) _) (Nat.le_refl _) _⟩
    · simp [World.setRow]
    · have hh := setRow_heap (w.alloc (.cells (madeCells #[.int .u8 0] n) 5)) w.heap.size (madeCells #[.int .u8 0] n) ((madeCells #[Value.int .u8 0] n).toList.take 0 ++ cs ++ (madeCells #[Value.int .u8 0] n).toList.drop (0 + n)).toArray 5 (0, 0) (heap_alloc_new w _)
      rw [cell_of_row _ _ _ _ _ _ hh]
      have hk2 : k < cs.length := by omega
      simp only [List.take_zero, List.nil_append, Nat.zero_add]
      rw [List.getElem?_toArray, List.getElem?_append_left hk2]
      simp [hcs]
      exact ⟨l[k], List.getElem?_eq_getElem hk, rfl⟩


set_option maxRecDepth 100000 in
set_option maxHeartbeats 4000000 in
/-- a nil text -/
theorem run_nil (w : World) (A : Nat) (hA : A ≤ 9223372036854775807) (D : Int) (hD1 : -9223372036854775808 ≤ D) (hD2 : D ≤ 9223372036854775807) (c : UInt8) (hc0 : 0 < c.toNat) :
    Calls Try.prog 3 #[.slice none 0 0, .int .i64 A, .int .i64 D, .int .u8 c.toNat] w fun e w' => e = .returned (.bool true) ∧ Below w.heap.size w w' := by
  have hb := bytes4 none 0 0 A D c.toNat (by omega) w
  rw [decide_eq_true (by omega)] at hb
  have hnn : ∀ W', (binOp .neq 22 (.slice none 0 0) (.slice none 0 0)).run Try.prog W' = .ok (.bool false) W' := fun W' => by
    have := run_neq_slice_nil_any (P := Try.prog) W' 22 5 none 0 0 0 0 Try.underlying22
    simpa using this
  have hc1 : ((c.toNat : Int) == 0) = false := by simp; omega
  have hT : Txt w none 0 [] := ⟨rfl, fun k hk => by simp at hk⟩
  go_enter Try.func3, Try.ntmps3
  go_wp2_with fail
  refine hb.mono ?_
  rintro e w' ⟨rfl, rfl⟩
  go_wp2_with fail
  go_loopg [10, 11, 12] 1 (fun k q m s wr => w = wr ∧ q = .int .i64 A ∧ m = .int .i64 0 ∧ s = .bool false)
  case atStart => exact ⟨rfl, rfl, rfl, rfl⟩
  case round =>
    obtain ⟨rfl, rfl, rfl, rfl⟩ := hrel
    have hA0 : decide ((A : Int) < 0) = false := decide_eq_false (by omega)
    go_upto_region 23 with fail
    go_cut [13] from 44 to 70 (fun v wr => w = wr ∧ v = .int .i64 0)
    case first =>
      go_wp2_with fail
      go_meet
      case rel => exact ⟨rfl, rfl⟩
    case rest =>
    obtain ⟨rfl, rfl⟩ := hcut
    go_wp2_with fail
    go_loopg [13, 14, 15, 16, 17] 2 (fun k nn cur d dn st wr => Below w.heap.size w wr ∧ nn = .int .i64 0 ∧ cur = .int .i64 A ∧ d = .int .i64 D ∧ ∃ done : Bool, dn = .bool done ∧ (done = false → st = .int .i64 0 ∧ k = 2) ∧ (done = true → st = .int .i64 1))
    case atStart => exact ⟨Below.refl _ _, rfl, rfl, rfl, false, rfl, (fun _ => ⟨rfl, rfl⟩), (fun h => by cases h)⟩
    case round =>
      obtain ⟨hbw, rfl, rfl, rfl, done, rfl, hno, hyes⟩ := hrel
      cases done with
      | true =>
        obtain rfl := hyes rfl
        have hdk : (D == wrap64 D) = true := by
          have : wrap64 D = D := by unfold wrap64; omega
          rw [this]; simp
        have hdk2 : wrap64 D = D := by unfold wrap64; omega
        clear hno hyes
        go_wp2
        go_ret
        exact ⟨rfl, hbw⟩
      | false =>
        obtain ⟨rfl, hk⟩ := hno rfl
        have hz := fun cp => zz_miss wr none 0 cp [] (hT.mono hbw) (by omega) A hA D c.toNat (by rw [nb_end _ _ (by simp)]; omega)
        rw [nx_end _ _ (by simp)] at hz
        clear hno hyes
        go_wp2_with fail
        refine (hz _).mono ?_
        rintro e w6 ⟨rfl, hb6⟩
        go_wp2
        go_roundg 1
        case measure => omega
        case rel => exact ⟨hbw.trans (hb6.mono hbw.size), rfl, rfl, rfl, true, rfl, (fun h => by cases h), (fun _ => rfl)⟩

set_option maxRecDepth 100000 in
set_option maxHeartbeats 4000000 in
/-- a text that is not nil -/
theorem run_some (w : World) (x : Addr) (n cp : Nat) (l : List UInt8) (hT0 : Txt w (some x) n l) (hn : n ≤ 1048576) (A : Nat) (hA : A ≤ 9223372036854775807) (D : Int) (hD1 : -9223372036854775808 ≤ D) (hD2 : D ≤ 9223372036854775807) (c : UInt8) (hc0 : 0 < c.toNat) :
    Calls Try.prog 3 #[.slice (some x) n cp, .int .i64 A, .int .i64 D, .int .u8 c.toNat] w fun e w' => e = .returned (.bool true) ∧ Below w.heap.size w w' := by
  have hb := bytes4 (some x) n cp A D c.toNat (by omega) w
  rw [decide_eq_true hn] at hb
  have hmk := fun (W : World) => run_make_row' (P := Try.prog) 22 5 (.int .u8 0) 1 Try.underlying22 info5 rfl .i64 .i64 n (by omega) (by omega) W
  obtain ⟨W, hcp, hT, hbel⟩ := copy_run w x n cp l hT0 hn
  have hnn : ∀ W', (binOp .neq 22 (.slice (some x) n cp) (.slice none 0 0)).run Try.prog W' = .ok (.bool true) W' := fun W' => by
    have := run_neq_slice_nil_any (P := Try.prog) W' 22 5 (some x) n cp 0 0 Try.underlying22
    simpa using this
  obtain ⟨Q, hQ⟩ : ∃ Q, A + (scan c (l.drop A)).1 = Q := ⟨_, rfl⟩
  obtain ⟨M, hM⟩ : ∃ M, (scan c (l.drop A)).2 = M := ⟨_, rfl⟩
  have hMn : M ≤ n := by
    rw [← hM]
    have := scan_le c (l.drop A)
    rw [List.length_drop, hT.1] at this
    omega
  have hc1 : ((c.toNat : Int) == 0) = false := by simp; omega
  clear hT0
  go_enter Try.func3, Try.ntmps3
  go_wp2_with fail
  refine hb.mono ?_
  rintro e w' ⟨rfl, rfl⟩
  go_wp2_with fail
  go_loopg [10, 11, 12] (n + 2) (fun k q m s wr => W = wr ∧ ∃ a cnt : Nat, ∃ st : Bool, q = .int .i64 a ∧ m = .int .i64 cnt ∧ s = .bool st ∧ a + (scan c (l.drop a)).1 = Q ∧ cnt + (scan c (l.drop a)).2 = M ∧ a ≤ 9223372036854775807 ∧ (st = true → scan c (l.drop a) = (0, 0)) ∧ (n - a) + (if st then 0 else 1) < k)
  case atStart => exact ⟨rfl, A, 0, false, rfl, rfl, rfl, hQ, by omega, hA, (fun h => by cases h), by simp; omega⟩
  case round =>
    obtain ⟨rfl, a, cnt, st, rfl, rfl, rfl, hq, hm, ha, hst, hk⟩ := hrel
    have HQ1 : Hid (a + (scan c (l.drop a)).1 = Q) := hq
    have HM1 : Hid (cnt + (scan c (l.drop a)).2 = M) := hm
    have hcn : cnt ≤ n := by omega
    clear hq hm
    by_cases hgo : st = false ∧ a < n
    · obtain ⟨hs0, hlt⟩ := hgo
      subst hs0
      clear hst
      have hal : a < l.length := by rw [hT.1]; exact hlt
      obtain ⟨p, hp, gc⟩ := hT.at hlt
      have hcw := gc W (Below.refl _ _)
      have hspc := space_any l[a]
      clear gc
      have hi1 : (0 : Int) ≤ (a : Int) := by omega
      have hi2 : (a : Int) < (n : Int) := by omega
      cases hs : isSp l[a] with
      | true =>
        have e := scan_sp c l a hal hs
        have HQ2 : Hid (a + 1 + (scan c (l.drop (a + 1))).1 = Q) := by show _ = _; have := HQ1.out; rw [e] at this; simp at this; omega
        have HM2 : Hid (cnt + (scan c (l.drop (a + 1))).2 = M) := by show _ = _; have := HM1.out; rw [e] at this; simpa using this
        rw [hs] at hspc
        clear e hs HQ1 HM1
        generalize l[a] = b at *
        go_wp2_with (go_at_call 5; refine (hspc _).mono ?_; rintro e w' ⟨rfl, rfl⟩)
        go_roundg (gk - 1)
        case measure => omega
        case rel => exact ⟨rfl, a + 1, cnt, false, by go_num, rfl, rfl, HQ2.out, HM2.out, by omega, (fun h => by cases h), by simp at hk ⊢; omega⟩
      | false =>
        rw [hs] at hspc
        by_cases hc : l[a] = c
        · have e := scan_hit c l a hal hs hc
          have HQ2 : Hid (a + 1 + (scan c (l.drop (a + 1))).1 = Q) := by show _ = _; have := HQ1.out; rw [e] at this; simp at this; omega
          have HM2 : Hid (cnt + 1 + (scan c (l.drop (a + 1))).2 = M) := by show _ = _; have := HM1.out; rw [e] at this; simp at this; omega
          rw [hc] at hspc hcw
          clear e hs HQ1 HM1 hc
          go_wp2_with (go_at_call 5; refine (hspc _).mono ?_; rintro e w' ⟨rfl, rfl⟩)
          go_roundg (gk - 1)
          case measure => omega
          case rel => exact ⟨rfl, a + 1, cnt + 1, false, by go_num, by go_num, rfl, HQ2.out, HM2.out, by omega, (fun h => by cases h), by simp at hk ⊢; omega⟩
        · have e := scan_no c l a hal hs hc
          have hne : (((l[a]).toNat : Int) == (c.toNat : Int)) = false := by
            simp
            intro h
            exact hc (UInt8.toNat_inj.1 (by omega))
          have HE : Hid (scan c (l.drop a) = (0, 0)) := e
          clear e hs hc
          generalize l[a] = b at *
          go_wp2_with (go_at_call 5; refine (hspc _).mono ?_; rintro e w' ⟨rfl, rfl⟩)
          go_roundg (gk - 1)
          case measure => omega
          case rel => exact ⟨rfl, a, cnt, true, rfl, rfl, rfl, HQ1.out, HM1.out, ha, fun _ => HE.out, by simp at hk ⊢; omega⟩
    · have hfin : scan c (l.drop a) = (0, 0) := by
        cases st with
        | true => exact hst rfl
        | false => exact scan_end c l a (by rw [hT.1]; simp at hgo; omega)
      have haQ : a = Q := by have := HQ1.out; rw [hfin] at this; simpa using this
      have hcM : cnt = M := by have := HM1.out; rw [hfin] at this; simpa using this
      subst haQ
      subst hcM
      clear hfin HQ1 HM1 hst
      have hguard : st = true ∨ (st = false ∧ n ≤ a ∧ decide ((a : Int) < (n : Int)) = false) := by
        cases st with
        | true => exact .inl rfl
        | false => exact .inr ⟨rfl, by simp at hgo; omega, decide_eq_false (by simp at hgo; omega)⟩
      clear hgo hk
      rcases hguard with hst1 | ⟨hst1, hlt1, hlt2⟩
      all_goals
        subst hst1
        go_upto_region 23 with fail
        go_cut [13] from 44 to 70 (fun v wr => W = wr ∧ v = .int .i64 0)
        case first =>
          go_wp2_with fail
          go_meet
          case rel => exact ⟨rfl, rfl⟩
        case rest =>
        obtain ⟨rfl, rfl⟩ := hcut
        go_wp2_with fail
        go_loopg [13, 14, 15, 16, 17] (n + 3) (fun k nn cur d dn st wr => Below W.heap.size W wr ∧ ∃ a2 c2 s2 : Nat, ∃ done : Bool, nn = .int .i64 c2 ∧ cur = .int .i64 a2 ∧ d = .int .i64 (dk D c2) ∧ dn = .bool done ∧ st = .int .i64 s2 ∧ a2 ≤ 9223372036854775807 ∧ s2 ≤ n + 2 ∧ n + 2 - s2 < k ∧ (done = false → s2 = c2 ∧ a2 + (scan c (l.drop a2)).1 = a ∧ c2 + (scan c (l.drop a2)).2 = cnt) ∧ (done = true → a2 = a ∧ c2 = cnt))
        case atStart => exact ⟨Below.refl _ _, A, 0, 0, false, rfl, rfl, by rw [dk_zero hD1 hD2], rfl, rfl, hA, by omega, by omega, (fun _ => ⟨rfl, hQ, by omega⟩), (fun h => by cases h)⟩
        case round =>
          obtain ⟨hbw, a2, c2, s2, done, rfl, rfl, rfl, rfl, rfl, ha2, hs2, hk2, hno, hyes⟩ := hrel
          cases done with
          | true =>
            obtain ⟨e1, e2⟩ := hyes rfl
            subst e1
            subst e2
            have hdk : (dk D c2 == wrap64 (D + (c2 : Int))) = true := by simp [dk]
            clear hno hyes hQ hM
            go_wp2
            go_ret
            exact ⟨rfl, hbel.trans (hbw.mono hbel.size)⟩
          | false =>
            obtain ⟨e1, hq2, hm2⟩ := hno rfl
            subst e1
            have hT2 := hT.mono hbw
            have hsn : s2 ≤ n := by omega
            have e := scan_nx c l _ a2 rfl
            by_cases hit : nb l a2 = c.toNat
            · have hz := fun cp => zz_hit wr _ n cp l hT2 hn a2 ha2 (dk D s2) c.toNat hit hc0
              rw [dk_succ] at hz
              obtain ⟨hl, hbc⟩ := nb_hit hit hc0
              have e2 := scan_hit c l (nx l a2) hl (nx_stop l _ a2 rfl hl) (UInt8.toNat_inj.1 hbc)
              obtain ⟨y, hy⟩ : ∃ y, y = nx l a2 + 1 := ⟨_, rfl⟩
              have HQ3 : Hid (y + (scan c (l.drop y)).1 = a) := by
                show _ = _
                rw [hy]
                rw [e.1, e2] at hq2
                simp at hq2
                omega
              have HM3 : Hid (s2 + 1 + (scan c (l.drop y)).2 = cnt) := by
                show _ = _
                rw [hy]
                rw [e.2, e2] at hm2
                simp at hm2
                omega
              have hyn : y ≤ n := by rw [hy]; have := hT.1; omega
              rw [← hy] at hz
              have HS : Hid (∀ z : Nat, n + 2 - s2 < z → 0 < z) := fun z hz => by omega
              clear hy e e2 hl hbc hit hq2 hm2 hno hyes hQ hM
              go_wp2_with fail
              refine (hz _).mono ?_
              rintro e w6 ⟨rfl, hb6⟩
              go_wp2
              go_roundg (gk - 1)
              case measure => omega
              case rel => exact ⟨hbw.trans (hb6.mono hbw.size), y, s2 + 1, s2 + 1, false, by go_num, rfl, rfl, rfl, by go_num, by omega, by omega, by omega, (fun _ => ⟨rfl, HQ3.out, HM3.out⟩), (fun h => by cases h)⟩
            · have hz := fun cp => zz_miss wr _ n cp l hT2 hn a2 ha2 (dk D s2) c.toNat hit
              obtain ⟨y, hy⟩ : ∃ y, y = nx l a2 := ⟨_, rfl⟩
              have e2 : scan c (l.drop (nx l a2)) = (0, 0) := by
                rcases Nat.lt_or_ge (nx l a2) l.length with hl | hl
                · refine scan_no c l (nx l a2) hl (nx_stop l _ a2 rfl hl) (fun h => hit ?_)
                  unfold nb
                  rw [drop_cons l _ hl]
                  exact congrArg UInt8.toNat h
                · exact scan_end c l _ hl
              have HQ3 : Hid (y = a) := by
                show _ = _
                rw [e.1, e2] at hq2
                simp at hq2
                omega
              have HM3 : Hid (s2 = cnt) := by
                show _ = _
                rw [e.2, e2] at hm2
                simpa using hm2
              have hyb : y ≤ 9223372036854775807 := by have := HQ3.out; omega
              rw [← hy] at hz
              clear hy e e2 hit hq2 hm2 hno hyes hQ hM
              go_wp2_with fail
              refine (hz _).mono ?_
              rintro e w6 ⟨rfl, hb6⟩
              go_wp2
              go_roundg (gk - 1)
              case measure => omega
              case rel => exact ⟨hbw.trans (hb6.mono hbw.size), y, s2, s2 + 1, true, rfl, rfl, rfl, rfl, by go_num, hyb, by omega, by omega, (fun h => by cases h), (fun _ => ⟨HQ3.out, HM3.out⟩)⟩

end Go.Proofs.Qxb6619751a
