/- FnDeflatesReadsOnlyItsSample: the walk. -/
import Derived.Test.Qxb6620878aSo
import Derived.Test.Qxb6620878aLb
import Derived.WalkSpells
namespace Go.Proofs.Qxb6620878a
open Go.ChangeShapes Go.WideShapes Go.ChangeAt Go.RowKit
set_option linter.unusedVariables false

theorem size5 : (Try.prog.info? 5).map (·.size) = some 1 := by kernel_rfl
theorem bytes9 (a : Option Addr) (n cap : Nat) (hn : n ≤ 9223372036854775807) (w : World) :
    Calls Try.prog 9 #[.slice a n cap] w fun e w' => e = .returned (.bool (decide (n ≤ 1048576))) ∧ w = w' := by
  go_enter Try.func9, Try.ntmps9
  go_wp2
  all_goals
    go_ret
    exact ⟨congrArg (fun b => Ending.returned (.bool b)) (by simp; omega), rfl⟩

theorem Byt.mono {W W' : World} {b o n : Nat} {f : Nat → Nat} (h : Byt W b o n f) {B : Nat} (hb : Below B W W') (hB : b < B) : Byt W' b o n f :=
  ⟨Nat.lt_of_lt_of_le h.old hb.size, fun k hk => (hb.cell (p := ⟨b, o + k, none⟩) hB).trans (h.cell k hk), h.small⟩

/-- the copy: a new slice with the same bytes -/
theorem copy_run (w : World) (b off n cp : Nat) (f : Nat → Nat) (hT : Byt w b off n f) (hn : n ≤ 1048576) (h0 : 0 < n) :
    ∃ W2, (∀ ty, (Builtin.copy_ #[22, 22] ty #[.slice (some ⟨w.heap.size, 0, none⟩) n n, .slice (some ⟨b, off, none⟩) n cp]).run Try.prog (w.alloc (.cells (madeCells #[.int .u8 0] n) 5)) = .ok (goInt n) W2) ∧ Byt W2 w.heap.size 0 n f ∧ Below w.heap.size w W2 := by
  obtain ⟨cs, hcs⟩ : ∃ cs : List Value, cs = cl (wl f 0 n) := ⟨_, rfl⟩
  have hcl : cs.length = n := by rw [hcs]; simp [cl, wl]
  have hcg : ∀ k, k < n → cs[k]? = some (.int .u8 (f k : Nat)) := fun k hk => by
    rw [hcs]
    simp [cl, wl, hk]
  have hcw : ∀ k, k < n → (w.alloc (.cells (madeCells #[.int .u8 0] n) 5)).cell? ⟨b, off + k, none⟩ = some (.int .u8 (f k : Nat)) := fun k hk =>
    (((Below.refl w.heap.size w).alloc (Nat.le_refl _) _).cell (p := ⟨b, off + k, none⟩) hT.old).trans (hT.cell k hk)
  have hsz : (madeCells #[Value.int .u8 0] n).size = n := by rw [size_madeCells]
  have hr := fun ty => run_copy_row (P := Try.prog) (w.alloc (.cells (madeCells #[.int .u8 0] n) 5)) 22 22 ty 5 w.heap.size 0 n n ⟨b, off, none⟩ n cp (madeCells #[.int .u8 0] n) 5 cs Try.underlying22 size5 (heap_alloc_new w _) (by rw [hcl]; simp)
    (by
      intro j v hj
      have hj2 : j < n := by
        have := (List.getElem?_eq_some_iff.1 hj).1
        omega
      have e : (⟨b, off, none⟩ : Addr).add j = ⟨b, off + j, none⟩ := by unfold Addr.add; split <;> simp_all
      rw [e, hcw j hj2, ← hcg j hj2, hj])
    (by omega) (by
      intro v hv
      rw [hcs] at hv
      unfold cl at hv
      rw [List.mem_map] at hv
      obtain ⟨u, _, rfl⟩ := hv
      rfl)
  rw [hcl] at hr
  refine ⟨_, hr, ⟨?_, fun k hk => ?_, hT.small⟩, below_setRow ((Below.refl _ _).alloc (Nat.le_refl _) _) (Nat.le_refl _) _⟩
  · simp [World.setRow]
  · have hh := setRow_heap (w.alloc (.cells (madeCells #[.int .u8 0] n) 5)) w.heap.size (madeCells #[.int .u8 0] n) ((madeCells #[Value.int .u8 0] n).toList.take 0 ++ cs ++ (madeCells #[Value.int .u8 0] n).toList.drop (0 + n)).toArray 5 (0, 0) (heap_alloc_new w _)
    rw [cell_of_row _ _ _ _ _ _ hh]
    have hk2 : k < cs.length := by omega
    simp only [List.take_zero, List.nil_append, Nat.zero_add]
    rw [List.getElem?_toArray, List.getElem?_append_left hk2]
    exact hcg k hk

/-- too long: true -/
theorem ro_long (a : Option Addr) (n cap : Nat) (hn : n ≤ 9223372036854775807) (h : ¬ n ≤ 1048576) (w : World) :
    Calls Try.prog 4 #[.slice a n cap] w fun e w' => e = .returned (.bool true) ∧ Below w.heap.size w w' := by
  have hb := bytes9 a n cap hn w
  rw [decide_eq_false h] at hb
  clear h
  go_enter Try.func4, Try.ntmps4
  go_wp2_with fail
  refine hb.mono ?_
  rintro e w' ⟨rfl, rfl⟩
  go_wp2
  go_ret
  exact ⟨rfl, Below.refl _ _⟩
/-- nil: true -/
theorem ro_nil (w : World) : Calls Try.prog 4 #[.slice none 0 0] w fun e w' => e = .returned (.bool true) ∧ Below w.heap.size w w' := by
  have hb := bytes9 none 0 0 (by omega) w
  rw [decide_eq_true (by omega)] at hb
  have hnn : ∀ W', (binOp .neq 22 (.slice none 0 0) (.slice none 0 0)).run Try.prog W' = .ok (.bool false) W' := fun W' => by
    have := run_neq_slice_nil_any (P := Try.prog) W' 22 5 none 0 0 0 0 Try.underlying22
    simpa using this
  have hz := zz_walk (def_short (a := none) (n := 0) (c := 0) (w := w) (by omega))
  go_enter Try.func4, Try.ntmps4
  go_wp2_with fail
  refine hb.mono ?_
  rintro e w' ⟨rfl, rfl⟩
  go_wp2_with fail
  refine hz.mono ?_
  rintro e w' ⟨rfl, rfl⟩
  go_wp2
  go_ret
  exact ⟨rfl, Below.refl _ _⟩
/-- short, not nil: true -/
theorem ro_short (x : Addr) (n cap : Nat) (W : World) (w : World) (hn : n < 8192)
    (hcp : ∀ ty, (Builtin.copy_ #[22, 22] ty #[.slice (some ⟨w.heap.size, 0, none⟩) n n, .slice (some x) n cap]).run Try.prog (w.alloc (.cells (madeCells #[.int .u8 0] n) 5)) = .ok (goInt n) W) (hbel : Below w.heap.size w W) :
    Calls Try.prog 4 #[.slice (some x) n cap] w fun e w' => e = .returned (.bool true) ∧ Below w.heap.size w w' := by
  have hb := bytes9 (some x) n cap (by omega) w
  rw [decide_eq_true (by omega)] at hb
  have hmk := fun (W : World) => run_make_row' (P := Try.prog) 22 5 (.int .u8 0) 1 Try.underlying22 info5 rfl .i64 .i64 n (by omega) (by omega) W
  have hnn : ∀ W', (binOp .neq 22 (.slice (some x) n cap) (.slice none 0 0)).run Try.prog W' = .ok (.bool true) W' := fun W' => by
    have := run_neq_slice_nil_any (P := Try.prog) W' 22 5 (some x) n cap 0 0 Try.underlying22
    simpa using this
  have hz := zz_walk (def_short (a := some ⟨w.heap.size, 0, none⟩) (n := n) (c := n) (w := W) hn)
  have d1 : decide (1048576 < (n : Int)) = false := by simp; omega
  have d2 : decide ((n : Int) < 8192) = true := by simp; omega
  clear hn
  go_enter Try.func4, Try.ntmps4
  go_wp2_with fail
  refine hb.mono ?_
  rintro e w' ⟨rfl, rfl⟩
  go_wp2_with fail
  refine hz.mono ?_
  rintro e w' ⟨rfl, rfl⟩
  go_wp2
  go_ret
  exact ⟨rfl, hbel⟩

set_option maxRecDepth 100000 in
set_option maxHeartbeats 4000000 in
/-- long enough: the sample -/
theorem ro_main (x : Addr) (n cap : Nat) (W : World) (w : World) (g : Nat → Nat) (h1 : 8192 ≤ n) (hn : n ≤ 1048576)
    (hcp : ∀ ty, (Builtin.copy_ #[22, 22] ty #[.slice (some ⟨w.heap.size, 0, none⟩) n n, .slice (some x) n cap]).run Try.prog (w.alloc (.cells (madeCells #[.int .u8 0] n) 5)) = .ok (goInt n) W) (hbel : Below w.heap.size w W) (hB : Byt W w.heap.size 0 n g) :
    Calls Try.prog 4 #[.slice (some x) n cap] w fun e w' => e = .returned (.bool true) ∧ Below w.heap.size w w' := by
  obtain ⟨i0, hi, hz0, hz1, hz2⟩ := info_parts info5
  obtain ⟨q, hq⟩ := all_terms
  have hb := bytes9 (some x) n cap (by omega) w
  rw [decide_eq_true (by omega)] at hb
  have hmk := fun (W : World) => run_make_row' (P := Try.prog) 22 5 (.int .u8 0) 1 Try.underlying22 info5 rfl .i64 .i64 n (by omega) (by omega) W
  have hmk0 : ∀ W : World, (Instr.makeSlice 22 (.int .i64 0) (.int .i64 8192)).run Try.prog W = .ok (.slice (some ⟨W.heap.size, 0, none⟩) 0 8192) (W.alloc (.cells (madeCells #[.int .u8 0] 8192) 5)) := fun W => mk0_run 8192 (by omega) W
  have hnn : ∀ W', (binOp .neq 22 (.slice (some x) n cap) (.slice none 0 0)).run Try.prog W' = .ok (.bool true) W' := fun W' => by
    have := run_neq_slice_nil_any (P := Try.prog) W' 22 5 (some x) n cap 0 0 Try.underlying22
    simpa using this
  have hT1 : Terms q (cnt g n 8) := hq _ (fun v => cnt_le g n 8 v)
  obtain ⟨R, hR⟩ : ∃ R, R = (F.order (entr q (cnt g n 8) 256) 4620636922686786765 == some .lt) := ⟨_, rfl⟩
  have hz := zz_walk (def_walk hB h1 hn (Nat.le_refl _) hT1 hR)
  -- the second call
  have hend : Hid (∀ (W1 : World) (gb cp : Nat), 8192 ≤ cp → Byt W1 gb 0 8192 (fn (srt (win (fn (sl g n 8)) z0 0 8192) 256)) → Calls Try.prog 8 #[.slice (some ⟨gb, 0, none⟩) 8192 cp] W1 fun e w' => e = .returned (.bool R) ∧ Below W1.heap.size W1 w') := fun W1 gb cp hcp hb1 => by
    have hlen : (srt (win (fn (sl g n 8)) z0 0 8192) 256).length = 8192 := by
      rw [srt_length]
      exact below_win (fn_small (sl_small hB.small n 8)) 0 8192
    have hR2 : R = (F.order (entr q (cnt (fn (srt (win (fn (sl g n 8)) z0 0 8192) 256)) 8192 8) 256) 4620636922686786765 == some .lt) := by
      rw [hR, entr_congr 256 (fun u hu => (same_counts g n u hu hlen).symm)]
    refine (zz_walk (def_walk hb1 (Nat.le_refl _) (by omega) hcp (hq _ (fun v => cnt_le _ 8192 8 v)) hR2)).mono ?_
    rintro e w1 ⟨he, hw⟩
    subst hw
    exact ⟨he, (Below.refl _ _).alloc (Nat.le_refl _) _⟩
  have d1 : decide (1048576 < (n : Int)) = false := by simp; omega
  have d2 : decide ((n : Int) < 8192) = false := by simp; omega
  have hn1 : 1024 ≤ n := by omega
  have hnH : Hid (n ≤ 1048576) := hn
  obtain ⟨W3, hW3⟩ : ∃ W3, W3 = W.alloc (.cells (arr (cnt g n 8)) 39) := ⟨_, rfl⟩
  have hb3 : Below W.heap.size W W3 := by
    rw [hW3]
    exact (Below.refl _ _).alloc (Nat.le_refl _) _
  have hB3 : Byt W3 w.heap.size 0 n g := hB.mono hb3 hB.old
  have hbel3 : Below w.heap.size w W3 := hbel.trans (hb3.mono hbel.size)
  rw [← hW3] at hz
  clear h1 hn hR hq hT1 hW3 hbel hB hb3
  go_enter Try.func4, Try.ntmps4
  go_wp2_with fail
  refine hb.mono ?_
  rintro e w' ⟨rfl, rfl⟩
  go_wp2_with fail
  refine hz.mono ?_
  rintro e w' ⟨rfl, hw⟩
  subst hw
  clear hz hb hcp hmk
  have hown0 : Hid ((w'.alloc (.cells (madeCells #[.int .u8 0] 8192) 5)).ownsRow w'.heap.size 5 1 (.slice (some ⟨w'.heap.size, 0, none⟩) 0 8192) 0 []) :=
    World.ownsRow_made w' _ 8192 (Nat.le_refl _) (by unfold maxLen; omega) (by rw [size_madeCells])
  go_wp2
  go_loopw [5, 6] (fun sv i wr => ∃ k : Nat, k ≤ 8 ∧ i = .int .i64 k ∧ wr.ownsRow w'.heap.size 5 1 sv (1024 * k) (cl (sl g n k)) ∧ Below w'.heap.size w' wr) (fun _ i _ => 8 - (intOf i).toNat)
  · exact ⟨0, by omega, rfl, hown0.out, (Below.refl _ _).alloc (Nat.le_refl _) _⟩
  · obtain ⟨k, hk, rfl, hown, hbel⟩ := hrel
    by_cases h8 : k < 8
    · have hn := hnH.out
      obtain ⟨M, hM⟩ : ∃ M, M = (n - 1024) * k := ⟨_, rfl⟩
      have hM1 : ((n : Int) - 1024) * (k : Int) = (M : Int) := by
        rw [hM, Int.natCast_mul, Int.natCast_sub (by omega)]
        rfl
      have hM2 : M ≤ (n - 1024) * 7 := by rw [hM]; exact Nat.mul_le_mul_left _ (by omega)
      obtain ⟨S, hS⟩ : ∃ S, S = at7 n k := ⟨_, rfl⟩
      have hS1 : (M : Int) / 7 = (S : Int) := by rw [hS, at7, ← hM]; omega
      have hS2 : S + 1024 ≤ n := by omega
      have hA : Hid (S = at7 n k) := hS
      have hsz := hbel.size
      have hcells : Hid (∀ j, j < 1024 → wr.cell? ⟨w.heap.size, S + j, none⟩ = some (.int .u8 (g (S + j) : Nat))) := fun j hj => by
        have := (hB3.mono hbel hB3.old).cell (S + j) (by omega)
        rw [Nat.zero_add] at this
        exact this
      clear hM hS
      go_wp2_with (at_builtin; refine wpList_append_own_at _ rfl _ _ 22 rfl w'.heap.size 5 i0 (.int .u8 0) 1 1 Try.underlying22 hi hz0 hz1 hz2 rfl (by decide) _ _ _ rfl hown ⟨w.heap.size, S, none⟩ _ _ (cl (wl g S 1024)) rfl ?c0 ?c1 ?c2 ?c3 ?c4 ?c5 ?_)
      case c0 => simp [cl, wl_length]
      case c1 =>
        intro j u hj
        have hj2 : j < 1024 := by
          have := (List.getElem?_eq_some_iff.1 hj).1
          simpa [cl, wl_length] using this
        have e : (⟨w.heap.size, S, none⟩ : Addr).add j = ⟨w.heap.size, S + j, none⟩ := by unfold Addr.add; split <;> simp_all
        rw [e, hcells.out j hj2, ← hj]
        simp [cl, wl, hj2]
      case c2 =>
        intro u hu
        unfold cl at hu
        rw [List.mem_map] at hu
        obtain ⟨y, _, rfl⟩ := hu
        rfl
      case c3 => unfold maxLen; omega
      case c4 => omega
      case c5 => exact hsz
      intro v' w1 hown' hgrow _ hat
      have hbel2 : Below w'.heap.size w' w1 := by
        refine hbel.grown hgrow hsz ?_
        intro k hk
        exact (hown.lt k hk).1
      have hown2 : Hid (w1.ownsRow w'.heap.size 5 1 v' (1024 * (k + 1)) (cl (sl g n (k + 1)))) := by
        have e : cl (sl g n (k + 1)) = cl (sl g n k) ++ cl (wl g S 1024) := by
          rw [sl, ← hA.out]
          simp [cl]
        show World.ownsRow _ _ _ _ _ _ _
        rw [e, show 1024 * (k + 1) = 1024 * k + 1024 by omega]
        exact hown'
      clear hgrow hat hbel hown hown' hcells hM1 hM2 hS1 hS2 hsz hn
      go_wp2
      exact ⟨⟨k + 1, by omega, rfl, hown2.out, hbel2⟩, by simp only [intOf]; omega⟩
    · have hk3 : k = 8 := by omega
      subst hk3
      have hsm : ∀ y ∈ sl g n 8, y < 256 := sl_small hB3.small n 8
      rcases hown.2 with ⟨_, e⟩ | ⟨g1, cp1, cur, e, _⟩
      · omega
      · subst e
        obtain ⟨hbyt, hcap⟩ := byt_of_owns hown hsm
        have hsort := sort_walk (n := 8192) (c := cp1) (show Byt wr g1 0 8192 (fn (sl g n 8)) from hbyt) (by omega) (by omega)
        have hfin : Hid (Below w.heap.size w wr) := hbel3.trans (hbel.mono hbel3.size)
        clear hown hbel hbyt hcap hsm hown0 hB3 hnH
        go_wp2_with fail
        refine hsort.mono ?_
        rintro e w2 ⟨g2, cp2, rfl, hcp2, hbyt2, hbel2⟩
        have hc := hend.out w2 g2 cp2 hcp2 hbyt2
        have hfin2 : Hid (Below w.heap.size w w2) := hfin.out.trans (hbel2.mono hfin.out.size)
        clear hend hsort hcp2 hbyt2 hbel2 hbel3 hfin
        go_wp2_with fail
        refine hc.mono ?_
        rintro e w4 ⟨rfl, hbel4⟩
        clear hc
        have hfin4 : Hid (Below w.heap.size w w4) := hfin2.out.trans (hbel4.mono hfin2.out.size)
        clear hbel4 hfin2
        go_wp2
        go_ret
        exact ⟨rfl, hfin4.out⟩
end Go.Proofs.Qxb6620878a
