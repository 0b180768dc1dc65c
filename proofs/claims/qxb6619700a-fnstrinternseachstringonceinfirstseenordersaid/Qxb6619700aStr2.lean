/- FnStrInternsEachStringOnceInFirstSeenOrder, third part: the walk. -/
import Derived.Test.Qxb6619700aStr1
import Derived.Deep.CutRange
import Derived.Deep.Light
namespace Go.Proofs.Qxb6619700a
open Go.RowKit Go.Maps

/-- the law's answer -/
def YesS (w : World) (e : Ending) (w' : World) : Prop := e = .returned (.bool true) ∧ Below w.heap.size w w'
theorem bel_drewS {B : Nat} {a b : World} (h : Below B a b) (n : Nat) : Below B a (b.drewN n) := ⟨h.os, h.tape, h.output, h.size, h.block⟩

theorem toList_beq_false {t s : ByteArray} (h : ¬ t = s) : (t.toList == s.toList) = false := by
  rw [beq_eq_false_iff_ne]
  intro e
  rw [ByteArray.toList_eq, ByteArray.toList_eq] at e
  exact h (WideShapes.bytes_inj e)

set_option maxRecDepth 100000 in
set_option maxHeartbeats 4000000 in
theorem str_walk (a3 : Option Addr) (n c3 : Nat) (ss : List ByteArray) (w : World) (h3 : n ≤ 9223372036854775807) (hR : Row w a3 n (strVals ss)) :
    Calls Try.prog 3 #[.slice a3 n c3] w (YesS w) := by
  obtain ⟨i0, hi, hz0, hz1, hz2⟩ := info_parts info9
  go_enter Try.func3, Try.ntmps3
  go_wp2_with fail
  refine (bytes6 a3 n c3 ss w h3 hR).mono ?_
  rintro e w' ⟨b, rfl, rfl, hsz3⟩
  cases b with
  | false =>
    go_wp2
    go_ret
    exact ⟨rfl, Below.refl _ _⟩
  | true =>
    have HZ : Hid (∀ j, j < n → (ss.getD j ByteArray.empty).size ≤ 1048576) := hsz3 rfl
    clear hsz3
    have hat : ∀ {k : Nat}, k < n → ∃ p : Addr, (∀ c W, (Instr.indexAt 22 (.slice a3 n c) (.int .i64 (k : Int))).run Try.prog W = .ok (.pointer (some p)) W) ∧ ∀ W, Below w.heap.size w W → W.cell? p = some (.string (ss.getD k ByteArray.empty)) := by
      intro k hk
      obtain ⟨p, h1, h2⟩ := hR.at 22 t22 s22 hk
      exact ⟨p, h1, fun W hW => by rw [h2 W hW]; unfold strVals; rw [getD_map _ _ ByteArray.empty]⟩
    have HAT : Hid (∀ {k : Nat}, k < n → ∃ p : Addr, (∀ c W, (Instr.indexAt 22 (.slice a3 n c) (.int .i64 (k : Int))).run Try.prog W = .ok (.pointer (some p)) W) ∧ ∀ W, Below w.heap.size w W → W.cell? p = some (.string (ss.getD k ByteArray.empty))) := hat
    clear hat hR
    go_wp2_with fail
    go_loop [3, 4] (fun z i => ∃ k : Nat, k ≤ n ∧ i = .int .i64 k ∧ ∃ y : Int, z = .int .i64 y ∧ 0 ≤ y ∧ y ≤ 1048576) (fun _ i => n - (intOf i).toNat)
    case atStart => exact ⟨0, by omega, rfl, _, rfl, by omega, by omega⟩
    case round =>
      obtain ⟨k, hk, rfl, y, rfl, hy0, hy1⟩ := hrel
      by_cases hlt : k < n
      · obtain ⟨p, hp, hc⟩ := HAT.out hlt
        have hcw := hc w (Below.refl _ _)
        have hb3 := HZ.out k hlt
        obtain ⟨s, hs⟩ : ∃ s, s = ss.getD k ByteArray.empty := ⟨_, rfl⟩
        rw [← hs] at hcw hb3
        clear hs hc
        go_wp2
        · go_ret; exact ⟨rfl, Below.refl _ _⟩
        · go_light
          exact ⟨⟨k + 1, by omega, by go_num, _, rfl, by omega, by omega⟩, by simp [intOf]; omega⟩
      · by_cases hn4 : n ≤ 4096
        · go_wp2_with fail
          refine (new_any w).mono ?_
          rintro e w1 ⟨rfl, hbld0, hbel0⟩
          have hst0 : St w w1 [] (.slice none 0 0) none 0 0 := ⟨World.ownsRow_nil _ _ _ _, hbld0, hbel0, Nat.le_refl _, fun d hd => by simp at hd⟩
          clear hbld0 hbel0 hlt hk hy0 hy1
          go_wp2_with fail
          go_loopw [6, 7, 8] (fun vd wl i wr => ∃ k : Nat, k ≤ n ∧ i = .int .i64 k ∧ ∃ ds ad cd ao cap, vd = .slice ad ds.length cd ∧ wl = .int .i64 (tabS ds).length ∧ St w wr ds (.slice ad ds.length cd) ao cap k) (fun _ _ i _ => n - (intOf i).toNat)
          case atStart => exact ⟨0, by omega, rfl, [], none, 0, none, 0, rfl, rfl, hst0⟩
          case round =>
            clear hst0
            obtain ⟨k, hk, rfl, ds, ad, cd, ao, cap, rfl, rfl, hst⟩ := hrel
            have hm4 : ds.length ≤ 4096 := by have := hst.len; omega
            have htl : (tabS ds).length ≤ 1099511627776 := by have := tabS_len ds hst.sz; omega
            by_cases hlt : k < n
            · obtain ⟨p, hp, hc⟩ := HAT.out hlt
              have hcw := hc wr hst.bel
              have hb3 := HZ.out k hlt
              obtain ⟨s, hs⟩ : ∃ s, s = ss.getD k ByteArray.empty := ⟨_, rfl⟩
              rw [← hs] at hcw hb3
              clear hs hc
              go_wp2_with fail
              go_loop [10, 11] (fun j d => j = .int .i64 (-1) ∧ ∃ m : Nat, d = .int .i64 m ∧ m ≤ ds.length ∧ ∀ i, i < m → ds.getD i ByteArray.empty ≠ s) (fun _ d => ds.length - (intOf d).toNat)
              case atStart => exact ⟨rfl, 0, rfl, by omega, fun i hi => by omega⟩
              case round =>
                obtain ⟨rfl, m, rfl, hm, hne⟩ := hrel
                have HNE : Hid (∀ i, i < m → ds.getD i ByteArray.empty ≠ s) := hne
                clear hne
                by_cases hmd : m < ds.length
                · obtain ⟨p2, hp2, hc2⟩ := dist_at hst.own hmd
                  by_cases heq : ds.getD m ByteArray.empty = s
                  · rw [heq] at hc2
                    have hmem : (ds[m]'hmd) = s := by rw [← heq]; simp [List.getD, hmd]
                    have hz := zstr_hit hst.bld m hmd (by rw [hmem]; exact hb3)
                    rw [hmem] at hz
                    have htab := table_any hst.bld
                    have HST : Hid (St w wr ds (.slice ad ds.length cd) ao cap k) := hst
                    clear hst heq hmem HNE
                    go_wp2_with fail
                    refine hz.mono ?_
                    rintro e w6 ⟨rfl, rfl⟩
                    go_wp2_with fail
                    refine htab.mono ?_
                    rintro e w7 ⟨rfl, rfl⟩
                    go_wp2
                    go_light
                    exact ⟨⟨k + 1, by omega, by go_num, ds, ad, cd, ao, cap, rfl, rfl, ⟨HST.out.own, HST.out.bld, HST.out.bel, by have := HST.out.len; omega, HST.out.sz⟩⟩, by simp [intOf]; omega⟩
                  · obtain ⟨t, ht⟩ : ∃ t, t = ds.getD m ByteArray.empty := ⟨_, rfl⟩
                    rw [← ht] at hc2 heq
                    have hbf := toList_beq_false heq
                    have HNE2 : Hid (∀ i, i < m + 1 → ds.getD i ByteArray.empty ≠ s) := by
                      intro i hi
                      rcases Nat.lt_or_ge i m with h | h
                      · exact HNE.out i h
                      · rw [show i = m by omega, ← ht]; exact heq
                    clear ht heq HNE
                    go_wp2_with fail
                    go_light
                    exact ⟨⟨rfl, m + 1, by go_num, by omega, HNE2.out⟩, by simp [intOf]; omega⟩
                · have hmm : m = ds.length := by omega
                  subst hmm
                  have hnot : s ∉ ds := by
                    intro h
                    obtain ⟨i, hi, he⟩ := List.mem_iff_getElem.1 h
                    exact HNE.out i hi (by simp [List.getD, hi, he])
                  clear HNE hm hmd
                  have huv := uvlen_any s.size (by omega)
                  obtain ⟨U, hU⟩ : ∃ U, U = (Lib.uvarint s.size).length := ⟨_, rfl⟩
                  rw [← hU] at huv
                  have hU10 : U ≤ 10 := by rw [hU]; exact Lib.uvarint_length64 (by omega)
                  obtain ⟨N, hN⟩ : ∃ N, N = (tabS ds).length := ⟨_, rfl⟩
                  have hN' : N + (1 + U + s.size) = (tabS (ds ++ [s])).length := by rw [tabS_snoc, List.length_append, fB6_len, hN, hU]
                  obtain ⟨N', hNN⟩ : ∃ N', N' = (tabS (ds ++ [s])).length := ⟨_, rfl⟩
                  have hNle : N ≤ 1099511627776 := by omega
                  have HN : Hid (N = (tabS ds).length) := hN
                  have HN' : Hid (N' = (tabS (ds ++ [s])).length) := hNN
                  have HNs : Hid (N + (1 + U + s.size) = N') := by show _ = _; rw [hN', hNN]
                  rw [← hN]
                  clear hN hN' hNN hU htl
                  go_wp2_with (at_builtin; refine wpList_append_own_at _ rfl _ _ 22 rfl w.heap.size 9 i0 (.string ByteArray.empty) 1 16 Try.underlying22 hi hz0 hz1 hz2 rfl (by decide) _ _ _ rfl (hst.own.alloc _) ⟨wr.heap.size, 0, none⟩ 1 1 [Value.string s] rfl rfl ?c1 ?c2 ?c3 ?c4 ?c5 ?_)
                  case c2 => first | rfl | (intro u hu; simp at hu; subst hu; rfl)
                  case c3 => unfold maxLen; omega
                  case c4 => omega
                  case c5 => have := hst.bel.size; simp; omega
                  intro v' w1 hown' hgrow _ _
                  obtain ⟨ho1, hb1, hbel1⟩ := hst.appended s _ hown' hgrow
                  have hz := zstr_miss hb1 s hnot hb3 (by rw [← HN.out]; exact hNle) (by omega)
                  have hlk := hst.len
                  have hsk := hst.sz
                  clear hst hown' hgrow
                  go_wp2_with fail
                  refine (huv _).mono ?_
                  rintro e w5 ⟨rfl, rfl⟩
                  go_wp2_with fail
                  refine hz.mono ?_
                  rintro e w2 ⟨rfl, ao', cap', hb2, hturn⟩
                  have hst2 : St w w2 (ds ++ [s]) v' ao' cap' (k + 1) := St.stored ho1 hb1 hbel1 hb2 hturn hlk hsk hb3
                  have htab := table_any hb2
                  rw [← HN'.out] at htab
                  have hEq : (N' : Int) = (N : Int) + (1 + (U : Int) + (s.size : Int)) := by have := HNs.out; omega
                  clear ho1 hb1 hbel1 hb2 hturn hz hlk hsk
                  go_wp2_with fail
                  refine htab.mono ?_
                  rintro e w7 ⟨rfl, rfl⟩
                  go_wp2
                  go_light
                  obtain ⟨ad', cd', hv'⟩ := shape9 hst2.own
                  subst hv'
                  exact ⟨⟨k + 1, by omega, by go_num, ds ++ [s], ad', cd', ao', cap', rfl, by rw [← HN'.out]; congr 1; omega, hst2⟩, by simp [intOf]; omega⟩
            · have htab := table_any hst.bld
              obtain ⟨N, hN⟩ : ∃ N, N = (tabS ds).length := ⟨_, rfl⟩
              have hRd : Reads wr (.slice ao N cap) (tabS ds) := by rw [hN]; exact Reads.of_owns hst.bld.ht
              have hdo := hst.own
              have hbel := hst.bel
              have hsk := hst.sz
              rw [← hN] at htab htl
              rw [← hN]
              have HN : Hid (N = (tabS ds).length) := hN
              obtain ⟨m, hm⟩ : ∃ m, m = ds.length := ⟨_, rfl⟩
              rw [← hm] at hdo hm4
              rw [← hm]
              have HM : Hid (m = ds.length) := hm
              clear hN hm hst
              obtain ⟨W3, hW3⟩ : ∃ W3, W3 = wr := ⟨_, rfl⟩
              subst hW3
              go_wp2_with fail
              refine htab.mono ?_
              rintro e w6 ⟨rfl, rfl⟩
              go_wp2_with fail
              go_loopw [14, 15] (fun p i wx => ∃ j : Nat, j ≤ m ∧ i = .int .i64 j ∧ p = .int .i64 (tabS (ds.take j)).length ∧ ∃ q, wx = W3.drewN q) (fun _ i _ => m - (intOf i).toNat)
              case atStart => exact ⟨0, by omega, rfl, rfl, 0, rfl⟩
              case round =>
                obtain ⟨j, hj, rfl, rfl, q, rfl⟩ := hrel
                by_cases hlt : j < m
                · obtain ⟨p2, hp2, hc2⟩ := dist_at hdo hlt
                  have hjl : j < ds.length := by rw [← HM.out]; exact hlt
                  have hsp := tabS_split ds j hjl
                  have hnx := tabS_take_succ ds j hjl
                  obtain ⟨d, hd⟩ : ∃ d, d = ds.getD j ByteArray.empty := ⟨_, rfl⟩
                  have hdz : d.size ≤ 1048576 := by rw [hd]; refine hsk _ ?_; simp [List.getD, hjl]
                  rw [← hd] at hc2 hsp hnx
                  obtain ⟨pre, hpre⟩ : ∃ pre, pre = tabS (ds.take j) := ⟨_, rfl⟩
                  rw [← hpre] at hsp hnx
                  rw [← hpre]
                  obtain ⟨T, P1, P2, hP2, hT8, hT7, hr1, hr3, hPN, hby⟩ := stepB W3 ao N cap (tabS ds) pre _ 6 d hRd HN.out htl hsp (by omega) hdz
                  have HQ : Hid (P2 + d.size = (tabS (ds.take (j + 1))).length) := by
                    show _ = _
                    rw [hnx]
                    exact hP2
                  have hPN2 : (P2 : Int) + (d.size : Int) ≤ (N : Int) := by omega
                  have hT6 : (T : Int) / 8 = 6 := by simpa using hT8
                  have HBY : Hid (∀ i (hi : i < d.size), ∃ p : Addr, (∀ c W, (Instr.indexAt 29 (.slice ao N c) (.int .i64 ((P2 : Int) + (i : Int)))).run Try.prog W = .ok (.pointer (some p)) W) ∧ W3.cell? p = some (.int .u8 (d[i]).toNat)) := hby
                  clear hP2 hby hT8 hsp hnx hd hpre
                  go_wp2_with fail
                  refine (hr1 _).mono ?_
                  rintro e w6 ⟨rfl, rfl⟩
                  go_wp2_with fail
                  refine (hr3 _).mono ?_
                  rintro e w7 ⟨rfl, rfl⟩
                  go_wp2_with fail
                  go_loopw [22] (fun i wx => ∃ i' : Nat, i' ≤ d.size ∧ i = .int .i64 i' ∧ ∃ q, wx = W3.drewN q) (fun i _ => d.size - (intOf i).toNat)
                  case atStart => exact ⟨0, by omega, rfl, q, rfl⟩
                  case round =>
                    obtain ⟨i, hi', rfl, q2, rfl⟩ := hrel
                    by_cases hid : i < d.size
                    · obtain ⟨pb, hpb, hcb⟩ := HBY.out i hid
                      go_wp2
                      go_quiet (fail)
                      go_wp2
                      go_light
                      exact ⟨⟨i + 1, by omega, by go_num, _, rfl⟩, by simp [intOf]; omega⟩
                    · have hie : i = d.size := by omega
                      subst hie
                      go_wp2
                      go_light
                      exact ⟨⟨j + 1, by omega, by go_num, by rw [← HQ.out]; go_num, q2, rfl⟩, by simp [intOf]; omega⟩
                · have hjm : j = m := by omega
                  have HQ : Hid ((tabS (ds.take j)).length = N) := by
                    show _ = _
                    rw [hjm, HM.out, List.take_length]
                    exact HN.out.symm
                  rw [HQ.out]
                  go_wp2
                  go_ret
                  exact ⟨rfl, bel_drewS hbel _⟩
        · go_wp2
          go_ret
          exact ⟨rfl, Below.refl _ _⟩

#print axioms str_walk
end Go.Proofs.Qxb6619700a
