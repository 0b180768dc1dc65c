/- zzSortBytes. -/
import Derived.Test.Qxb6620878aSp
import Derived.Test.Qxb6620878aEw
import Derived.Maps.AppendAt
namespace Go.Proofs.Qxb6620878a
open Go.ChangeShapes Go.WideShapes Go.ChangeAt Go.RowKit
set_option linter.unusedVariables false

def cl (l : List Nat) : List Value := l.map fun x => .int .u8 (x : Nat)

/-- what comes back: a slice of n bytes, l -/
def Gives (w : World) (n : Nat) (l : List Nat) (e : Ending) (w' : World) : Prop :=
  ∃ g cap, e = .returned (.slice (some ⟨g, 0, none⟩) n cap) ∧ n ≤ cap ∧ Byt w' g 0 n (fn l) ∧ Below w.heap.size w w'

theorem byt_of_owns {w : World} {B n g cap : Nat} {l : List Nat} (h : w.ownsRow B 5 1 (.slice (some ⟨g, 0, none⟩) n cap) n (cl l)) (hs : ∀ x ∈ l, x < 256) : Byt w g 0 n (fn l) ∧ n ≤ cap := by
  obtain ⟨h1, h2⟩ := h
  rcases h2 with ⟨h2, _⟩ | ⟨g', cap', cur, e, _, hh, hc, _, hsz, hx⟩
  · simp at h2
  · simp at e
    obtain ⟨rfl, rfl⟩ := e
    have hln : l.length = n := by simpa [cl] using h1
    refine ⟨⟨?_, fun k hk => ?_, fn_small hs⟩, hc⟩
    · exact (Array.getElem?_eq_some_iff.1 hh).1
    · rw [cell_of_row _ _ _ _ _ _ hh, Nat.zero_add]
      have hk2 : k < l.length := by omega
      have e1 : (cur.toList.take (n * 1))[k]? = cur.toList[k]? := List.getElem?_take_of_lt (by omega)
      rw [hx] at e1
      rw [← Array.getElem?_toList, ← e1]
      simp [cl, fn, List.getD_eq_getElem?_getD, List.getElem?_eq_getElem hk2]

theorem mk0_run (n : Nat) (hn : n ≤ 1048576) (W : World) : (Instr.makeSlice 22 (.int .i64 0) (.int .i64 (n : Nat))).run Try.prog W = .ok (.slice (some ⟨W.heap.size, 0, none⟩) 0 n) (W.alloc (.cells (madeCells #[.int .u8 0] n) 5)) := by
  obtain ⟨i0, hi, hz0, hz1, hz2⟩ := info_parts info5
  have := run_make (P := Try.prog) W 22 5 i0 (.int .u8 0) Try.underlying22 hi hz0 .i64 .i64 0 (n : Nat) (by omega) (by omega) (by rw [hz2]; omega) (by omega)
  rw [hz1] at this
  simpa [Value.cells] using this

set_option maxRecDepth 100000 in
set_option maxHeartbeats 4000000 in
theorem sort_walk {b o n c : Nat} {f : Nat → Nat} {w : World} (hB : Byt w b o n f) (hn : n ≤ 1048576) (h0 : 0 < n) :
    Calls Try.prog 10 #[.slice (some ⟨b, o, none⟩) n c] w fun e w' => Gives w n (srt (win f z0 0 n) 256) e w' := by
  obtain ⟨i0, hi, hz0, hz1, hz2⟩ := info_parts info5
  have hz := zero39
  have hmk := mk0_run n hn
  have hsum : Hid (below (win f z0 0 n) 256 = n) := below_win hB.small 0 n
  go_enter Try.func10, Try.ntmps10
  go_wp2
  go_loopw [11] (fun i w' => ∃ j : Nat, j ≤ n ∧ i = .int .i64 j ∧ w' = w.alloc (.cells (arr (win f z0 0 j)) 39)) (fun i _ => n - (intOf i).toNat)
  · exact ⟨0, by omega, rfl, rfl⟩
  · obtain ⟨j, hj, rfl, rfl⟩ := hrel
    by_cases hj2 : j < n
    · obtain ⟨C, hC⟩ : ∃ C, C = win f z0 0 j := ⟨_, rfl⟩
      obtain ⟨v, hv⟩ : ∃ v, v = f j := ⟨_, rfl⟩
      have hv2 : v < 256 := by rw [hv]; exact hB.small _
      have hCv : C v ≤ 1048576 := by
        have := win_le f z0 0 0 (fun _ => Nat.le_refl _) j v
        rw [hC]
        omega
      rw [← hC]
      obtain ⟨W, hW⟩ : ∃ W, W = w.alloc (.cells (arr C) 39) := ⟨_, rfl⟩
      have hc1 : W.cell? ⟨b, o + j, none⟩ = some (.int .u8 (v : Nat)) := by
        rw [hW, hv, World.cell?_alloc_lt _ _ _ hB.old]
        exact hB.cell _ (by omega)
      have hc2 : W.cell? ⟨w.heap.size, v, none⟩ = some (.int .i64 (C v : Nat)) := by
        rw [hW, cell_of_row _ _ v _ _ (0, 0) (heap_alloc_new w _)]
        exact arr_at C v hv2
      have hc3 : W.frozen? ⟨w.heap.size, v, none⟩ = false := by
        rw [hW]
        exact frozen_of_row _ _ _ _ _ (heap_alloc_new w _)
      have hset : Hid (W.setCell ⟨w.heap.size, v, none⟩ (.int .i64 ((C v : Nat) + 1)) = w.alloc (.cells (arr (inc C v)) 39)) := by
        show W.setCell _ _ = _
        rw [hW, setCell_eq_setRow _ _ _ _ _ _ _ (heap_alloc_new w _), World.setRow_alloc_new, arr_set C v hv2]
      have hnext : Hid (inc C v = win f z0 0 (j + 1)) := by
        show inc C v = inc (win f z0 0 j) (f (0 + j))
        rw [hC, hv, Nat.zero_add]
      rw [← hW]
      clear hv hC hW hmk hz
      go_wp2
      refine ⟨⟨j + 1, by omega, rfl, ?_⟩, by simp only [intOf]; omega⟩
      rw [← hnext.out]
      exact hset.out
    · have hj3 : j = n := by omega
      subst hj3
      obtain ⟨C, hC⟩ : ∃ C, C = win f z0 0 j := ⟨_, rfl⟩
      have hCle : ∀ v, C v ≤ 1048576 := fun v => by
        have := win_le f z0 0 0 (fun _ => Nat.le_refl _) j v
        rw [hC]
        omega
      rw [← hC] at hsum ⊢
      obtain ⟨W, hW⟩ : ∃ W, W = w.alloc (.cells (arr C) 39) := ⟨_, rfl⟩
      have hbW : Below w.heap.size w W := by
        rw [hW]
        exact (Below.refl _ w).alloc (Nat.le_refl _) _
      have hWs : Hid (W.heap.size = w.heap.size + 1) := by rw [hW]; show (w.alloc _).heap.size = _; simp
      have hcell : Hid (∀ v, v < 256 → W.cell? ⟨w.heap.size, v, none⟩ = some (.int .i64 (C v : Nat))) := fun v hv => by
        rw [hW, cell_of_row _ _ v _ _ (0, 0) (heap_alloc_new w _)]
        exact arr_at C v hv
      have hown0 : Hid ((W.alloc (.cells (madeCells #[.int .u8 0] j) 5)).ownsRow W.heap.size 5 1 (.slice (some ⟨W.heap.size, 0, none⟩) 0 j) 0 []) :=
        World.ownsRow_made W _ j (Nat.le_refl _) (by unfold maxLen; omega) (by rw [size_madeCells]; omega)
      rw [← hW]
      have hCC : Hid (C = win f z0 0 j) := hC
      clear hC hW hz
      go_wp2
      go_loopw [6, 7] (fun sv i wr => ∃ v : Nat, v ≤ 256 ∧ i = .int .i64 v ∧ wr.ownsRow W.heap.size 5 1 sv (srt C v).length (cl (srt C v)) ∧ Below W.heap.size W wr) (fun _ i _ => 256 - (intOf i).toNat)
      · exact ⟨0, by omega, rfl, hown0.out, (Below.refl _ _).alloc (Nat.le_refl _) _⟩
      · obtain ⟨v, hv, rfl, hown, hbel⟩ := hrel
        by_cases hv2 : v < 256
        · have hcv : ∀ wx, Below W.heap.size W wx → wx.cell? ⟨w.heap.size, v, none⟩ = some (.int .i64 (C v : Nat)) := fun wx hb =>
            (hb.cell (p := ⟨w.heap.size, v, none⟩) (by have := hWs.out; show w.heap.size < _; omega)).trans (hcell.out v hv2)
          have hCv := hCle v
          obtain ⟨cv, hcve⟩ : ∃ cv, cv = C v := ⟨_, rfl⟩
          have hnext : Hid (srt C (v + 1) = srt C v ++ List.replicate cv v) := by rw [hcve]; exact rfl
          rw [← hcve] at hcv hCv
          have hlen : Hid ((srt C v).length + cv ≤ j) := by
            show _ ≤ _
            have hsm := hsum.out
            rw [srt_length, hcve]
            have hmono : ∀ d u, u + d = 256 → below C u ≤ j := by
              intro d
              induction d with
              | zero => intro u e; rw [show u = 256 by omega, hsm]; exact Nat.le_refl _
              | succ d ih =>
                intro u e
                have := ih (u + 1) (by omega)
                simp only [below] at this
                omega
            have := hmono (256 - (v + 1)) (v + 1) (by omega)
            simp only [below] at this
            exact this
          clear hcve hCle hmk
          obtain ⟨L, hL⟩ : ∃ L, L = srt C v := ⟨_, rfl⟩
          rw [← hL] at hown hnext hlen
          clear hL
          have hvd : decide ((v : Int) < 256) = true := by simp; omega
          go_wp2
          go_loopw [6, 8] (fun sv i wx => ∃ t : Nat, t ≤ cv ∧ i = .int .i64 t ∧ wx.ownsRow W.heap.size 5 1 sv (L.length + t) (cl (L ++ List.replicate t v)) ∧ Below W.heap.size W wx) (fun _ i _ => cv - (intOf i).toNat)
          · exact ⟨0, by omega, rfl, by simpa using hown, hbel⟩
          · obtain ⟨t, ht, rfl, hown1, hbel1⟩ := hrel
            have hc1 := hcv wr hbel1
            have hsz := hbel1.size
            have hlt := hlen.out
            clear hcv hown hbel
            by_cases ht2 : t < cv
            · go_wp2_with (at_builtin; refine wpList_append_own_at _ rfl _ _ 22 rfl W.heap.size 5 i0 (.int .u8 0) 1 1 Try.underlying22 hi hz0 hz1 hz2 rfl (by decide) _ _ _ rfl (hown1.alloc _) ⟨wr.heap.size, 0, none⟩ 1 1 [Value.int .u8 (v : Int)] rfl rfl ?c1 ?c2 ?c3 ?c4 ?c5 ?_)
              case c1 =>
                intro j u hj
                match j, hj with
                | 0, hj => simp at hj; subst hj; simp [Addr.add]
              case c2 => intro u hu; simp at hu; subst hu; rfl
              case c3 => unfold maxLen; omega
              case c4 => omega
              case c5 => simp; omega
              intro v' w1 hown' hgrow _ hat
              have hbel2 : Below W.heap.size W w1 := by
                refine ((hbel1.alloc hsz _).grown hgrow (by simp; omega) ?_)
                intro k hk
                exact (hown1.lt k hk).1
              clear hgrow hat hbel1 hown1 hc1
              go_wp2
              refine ⟨⟨t + 1, by omega, rfl, ?_, hbel2⟩, by simp only [intOf]; omega⟩
              have e : cl (L ++ List.replicate (t + 1) v) = cl (L ++ List.replicate t v) ++ [Value.int .u8 (v : Int)] := by
                simp [cl, List.replicate_succ']
              rw [e, ← Nat.add_assoc]
              exact hown'
            · have ht3 : t = cv := by omega
              subst ht3
              go_wp2
              refine ⟨⟨v + 1, by omega, rfl, ?_, hbel1⟩, by simp only [intOf]; omega⟩
              rw [hnext.out, List.length_append, List.length_replicate]
              exact hown1
        · have hv3 : v = 256 := by omega
          subst hv3
          have hlen : (srt C 256).length = j := by rw [srt_length]; exact hsum.out
          rw [hlen] at hown
          have hsm : ∀ x ∈ srt C 256, x < 256 := srt_small C 256
          rcases hown.2 with ⟨_, e⟩ | ⟨g, cap, cur, e, _⟩
          · omega
          · subst e
            obtain ⟨hbyt, hcap⟩ := byt_of_owns hown hsm
            have hres : Hid (Gives w j (srt C 256) (.returned (.slice (some ⟨g, 0, none⟩) j cap)) wr) := ⟨g, cap, rfl, hcap, hbyt, hbW.trans (hbel.mono (by have := hWs.out; omega))⟩
            clear hown hbel hbyt hcap hsm hlen hCle hmk
            go_wp2
            go_ret
            rw [← hCC.out]
            exact hres.out
end Go.Proofs.Qxb6620878a
