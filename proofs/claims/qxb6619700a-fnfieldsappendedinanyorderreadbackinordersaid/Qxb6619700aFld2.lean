/- FnFieldsAppendedInAnyOrderReadBackInOrder, third part: the walk. -/
import Derived.Test.Qxb6619700aFld1
import Derived.Deep.DeepCutAuto
import Derived.Deep.Light
import Derived.Deep.RegionWith
import Derived.Deep.DrawnRows
namespace Go.Proofs.Qxb6619700a
open Go.RowKit

attribute [local go_sem ↓] Go.wp_at_zero Go.wp_at_succ

/-- the law's answer -/
def Yes (w : World) (e : Ending) (w' : World) : Prop := e = .returned (.bool true) ∧ Below w.heap.size w w'

theorem bel_drewN' {B : Nat} {a b : World} (h : Below B a b) (n : Nat) : Below B a (b.drewN n) := ⟨h.os, h.tape, h.output, h.size, h.block⟩

set_option maxRecDepth 100000 in
set_option maxHeartbeats 4000000 in
theorem fields_walk (a0 a1 a2 a3 : Option Addr) (n0 n1 n2 n3 c0 c1 c2 c3 : Nat) (bs : List Bool) (fs vs : List Int) (ds : List ByteArray) (w : World) (h0 : n0 ≤ 9223372036854775807) (h1 : n1 ≤ 9223372036854775807) (h2 : n2 ≤ 9223372036854775807) (h3 : n3 ≤ 9223372036854775807)
    (hF : Four w a0 a1 a2 a3 n0 n1 n2 n3 bs fs vs ds) :
    Calls Try.prog 5 #[.slice a0 n0 c0, .slice a1 n1 c1, .slice a2 n2 c2, .slice a3 n3 c3] w (Yes w) := by
  go_enter Try.func5, Try.ntmps5
  go_wp2_with fail
  refine (bytes16 a0 a1 a2 a3 n0 n1 n2 n3 c0 c1 c2 c3 ds w h0 h1 h2 h3 hF.r3).mono ?_
  rintro e w' ⟨b, rfl, rfl, hsz3⟩
  cases b with
  | false =>
    go_wp2
    go_ret
    exact ⟨rfl, Below.refl _ _⟩
  | true =>
    have HZ : Hid (∀ j, j < n3 → (ds.getD j ByteArray.empty).size ≤ 1048576) := hsz3 rfl
    clear hsz3
    go_wp2_with fail
    iterate 5 (go_ret; exact ⟨rfl, Below.refl _ _⟩)
    rename (n0 : Int) ≤ 65536 => l0
    rename (n1 : Int) ≤ 65536 => l1
    rename (n2 : Int) ≤ 65536 => l2
    rename (n3 : Int) ≤ 65536 => l3
    go_loop [9, 10] (fun z i => ∃ k : Nat, k ≤ n3 ∧ i = .int .i64 k ∧ ∃ y : Int, z = .int .i64 y ∧ 0 ≤ y ∧ y ≤ 1048576) (fun _ i => n3 - (intOf i).toNat)
    case atStart => exact ⟨0, by omega, rfl, _, rfl, by omega, by omega⟩
    case round =>
      obtain ⟨k, hk, rfl, y, rfl, hy0, hy1⟩ := hrel
      by_cases hlt : k < n3
      · obtain ⟨p, hp, hc⟩ := hF.at3 hlt
        have hcw := hc w (Below.refl _ _)
        have hb3 := HZ.out k hlt
        obtain ⟨s, hs⟩ : ∃ s, s = ds.getD k ByteArray.empty := ⟨_, rfl⟩
        rw [← hs] at hcw hb3
        clear hs hc
        go_wp2
        · go_ret; exact ⟨rfl, Below.refl _ _⟩
        · go_light
          exact ⟨⟨k + 1, by omega, by go_num, _, rfl, by omega, by omega⟩, by simp [intOf]; omega⟩
      · skip
        go_upto_if 76 with fail
        go_cut [11] from 71 to 90 (fun s w' => w = w' ∧ ∃ m : Nat, s = .int .i64 m ∧ m ≤ n0 ∧ m ≤ n1)
        case first =>
          go_wp2_with fail
          all_goals (go_meet; case rel => exact ⟨rfl, _, rfl, by omega, by omega⟩)
        case rest =>
        obtain ⟨rfl, m, rfl, m0, m1⟩ := hcut
        go_upto_if 82 with fail
        go_cut [11] from 71 to 90 (fun s w' => w = w' ∧ ∃ m : Nat, s = .int .i64 m ∧ m ≤ n0 ∧ m ≤ n1 ∧ m ≤ n2)
        case first =>
          go_wp2_with fail
          all_goals (go_meet; case rel => exact ⟨rfl, _, rfl, by omega, by omega, by omega⟩)
        case rest =>
        clear m0 m1
        obtain ⟨rfl, m, rfl, m0, m1, m2⟩ := hcut
        go_upto_if 88 with fail
        go_cut [11] from 71 to 90 (fun s w' => w = w' ∧ ∃ m : Nat, s = .int .i64 m ∧ m ≤ n0 ∧ m ≤ n1 ∧ m ≤ n2 ∧ m ≤ n3)
        case first =>
          go_wp2_with fail
          all_goals (go_meet; case rel => exact ⟨rfl, _, rfl, by omega, by omega, by omega, by omega⟩)
        case rest =>
        clear m0 m1 m2
        obtain ⟨rfl, n, rfl, m0, m1, m2, m3⟩ := hcut
        have hn : n ≤ 65536 := by omega
        clear hlt hk hy0 hy1
        go_wp2_with fail
        go_loop [12] (fun i => ∃ k : Nat, k ≤ n ∧ i = .int .i64 k ∧ ∀ j, j < k → 0 ≤ fs.getD j 0 ∧ fs.getD j 0 < 2305843009213693952) (fun i => n - (intOf i).toNat)
        case atStart => exact ⟨0, by omega, rfl, fun j hj => by omega⟩
        case round =>
          obtain ⟨k, hk, rfl, hfs⟩ := hrel
          have HFS : Hid (∀ j, j < k → 0 ≤ fs.getD j 0 ∧ fs.getD j 0 < 2305843009213693952) := hfs
          clear hfs
          by_cases hlt : k < n
          · obtain ⟨p, hp, hc⟩ := hF.at1 (show k < n1 by omega)
            have hcw := hc w (Below.refl _ _)
            have HB : Hid (-9223372036854775808 ≤ fs.getD k 0 ∧ fs.getD k 0 ≤ 9223372036854775807) := hF.b1 k
            obtain ⟨fk, hfk⟩ : ∃ fk, fk = fs.getD k 0 := ⟨_, rfl⟩
            rw [← hfk] at hcw
            have HE : Hid (fk = fs.getD k 0) := hfk
            clear hfk hc
            go_wp2
            · go_ret; exact ⟨rfl, Below.refl _ _⟩
            · rename 0 ≤ fk ∧ _ => hfx
              have hb := HB.out
              rw [← HE.out] at hb
              rw [u64_wrap_id _ hfx.1 (by omega)] at hfx
              refine ⟨⟨k + 1, by omega, by go_num, ?_⟩, by simp [intOf]; omega⟩
              intro j hj
              rcases Nat.lt_or_ge j k with h | h
              · exact HFS.out j h
              · rw [show j = k by omega, ← HE.out]; exact hfx
            · go_ret; exact ⟨rfl, Below.refl _ _⟩
          · have HN : Hid (∀ j, j < n → 0 ≤ fs.getD j 0 ∧ fs.getD j 0 < 2305843009213693952) := fun j hj => HFS.out j (by omega)
            clear HFS
            go_wp2_with fail
            have HL : Hid (∀ k, k ≤ n → (enc bs fs vs ds k).length ≤ 1099511627776) := by
              intro k hk
              have := enc_len bs fs vs ds n HN.out hF.b2 (fun j hj => HZ.out j (by omega)) k hk
              omega
            go_loopw [13, 14] (fun v i wr => ∃ k : Nat, k ≤ n ∧ i = .int .i64 k ∧ ∃ ao cap, v = .slice ao (enc bs fs vs ds k).length cap ∧ Built w (enc bs fs vs ds k) (.slice ao (enc bs fs vs ds k).length cap) wr) (fun _ i _ => n - (intOf i).toNat)
            case atStart => exact ⟨0, by omega, rfl, none, 0, rfl, World.ownsRow_nil _ _ _ _, Below.refl _ _⟩
            case round =>
              clear hlt hk
              obtain ⟨k, hk, rfl, ao, cap, rfl, hbl⟩ := hrel
              by_cases hlt : k < n
              · obtain ⟨p0, hp0, gc0⟩ := hF.at0 (show k < n0 by omega)
                obtain ⟨p1, hp1, gc1⟩ := hF.at1 (show k < n1 by omega)
                have hc0 := gc0 wr hbl.2
                have hc1 := gc1 wr hbl.2
                clear gc0 gc1
                obtain ⟨f, hf⟩ := Int.eq_ofNat_of_zero_le (HN.out k hlt).1
                have hf2 := (HN.out k hlt).2
                have HFK : Hid (fs.getD k 0 = (f : Int) ∧ f < 2305843009213693952) := ⟨hf, by omega⟩
                rw [hf] at hc1
                clear hf hf2
                have HLk := HL.out k hk
                obtain ⟨L, hL⟩ : ∃ L, L = enc bs fs vs ds k := ⟨_, rfl⟩
                rw [← hL] at hbl HLk
                rw [← hL]
                have HE : Hid (L = enc bs fs vs ds k) := hL
                clear hL
                by_cases hbk : bs.getD k false = true
                · obtain ⟨p3, hp3, gc3⟩ := hF.at3 (show k < n3 by omega)
                  have hc3 := gc3 wr hbl.2
                  clear gc3
                  rw [hbk] at hc0
                  obtain ⟨d, hd⟩ : ∃ d, d = ds.getD k ByteArray.empty := ⟨_, rfl⟩
                  rw [← hd] at hc3
                  have hdz : d.size ≤ 1048576 := by rw [hd]; exact HZ.out k (by omega)
                  have HX : Hid (L ++ fB f d.data.toList = enc bs fs vs ds (k + 1)) := by
                    show _ = _
                    rw [enc, item, hbk, if_pos rfl, HFK.out.1, ← hd, ← HE.out]
                    rfl
                  clear hd hbk
                  have hcv := fun W => Lib.run_convert_string_bytes (P := Try.prog) W 9 29 5 d Try.underlying9 Try.underlying29 Try.underlying5
                  have hcall := fun c => call17 w wr L (.slice ao L.length cap) f c d hbl HFK.out.2 hdz HLk
                  rw [HX.out] at hcall
                  have hc1' : (Lib.bytesWorld wr.drew 5 d).cell? p1 = some (.int .i64 (f : Int)) := (Lib.bytesWorld_old wr.drew 5 d p1 (World.block_lt_of_cell? wr _ hc1)).trans hc1
                  clear hbl
                  go_wp2
                  go_region_with (go_at_call 17; refine (hcall _).mono ?_; rintro e w' ⟨ao', cap', rfl, hbl'⟩)
                  all_goals go_wp2
                  all_goals (go_light; exact ⟨⟨k + 1, by omega, by go_num, _, _, rfl, by assumption⟩, by simp [intOf]; omega⟩)
                · obtain ⟨p2, hp2, gc2⟩ := hF.at2 (show k < n2 by omega)
                  have hc2 := gc2 wr hbl.2
                  clear gc2
                  rw [Bool.not_eq_true] at hbk
                  rw [hbk] at hc0
                  have hb2 := hF.b2 k
                  obtain ⟨x, hx⟩ := Int.eq_ofNat_of_zero_le hb2.1
                  rw [hx] at hc2 hb2
                  have HX : Hid (L ++ fU f x = enc bs fs vs ds (k + 1)) := by
                    show _ = _
                    rw [enc, item, hbk, HFK.out.1, hx, ← HE.out]
                    rfl
                  have hcall := call14 w wr L (.slice ao L.length cap) f x hbl HFK.out.2 (by omega) HLk
                  rw [HX.out] at hcall
                  clear hbk hx hb2 hbl
                  go_wp2
                  go_region_with (go_at_call 14; refine hcall.mono ?_; rintro e w' ⟨ao', cap', rfl, hbl'⟩)
                  all_goals go_wp2
                  all_goals (go_light; exact ⟨⟨k + 1, by omega, by go_num, _, _, rfl, by assumption⟩, by simp [intOf]; omega⟩)
              · have hkn : k = n := by omega
                subst hkn
                obtain ⟨W3, hW3⟩ : ∃ W3, W3 = wr := ⟨_, rfl⟩
                subst hW3
                have hNle := HL.out k (Nat.le_refl _)
                obtain ⟨L, hL⟩ : ∃ L, L = enc bs fs vs ds k := ⟨_, rfl⟩
                rw [← hL] at hbl hNle
                rw [← hL]
                have hR := Reads.of_owns hbl.1
                have hbel := hbl.2
                obtain ⟨N, hN⟩ : ∃ N, N = L.length := ⟨_, rfl⟩
                rw [← hN] at hR hNle
                rw [← hN]
                have HNN : Hid (N = L.length) := hN
                have HE : Hid (L = enc bs fs vs ds k) := hL
                clear hN hL hbl hlt hk
                go_wp2_with fail
                go_loopw [15, 16] (fun p i wx => ∃ j : Nat, j ≤ k ∧ i = .int .i64 j ∧ p = .int .i64 (enc bs fs vs ds j).length ∧ ∃ q, wx = W3.drewN q) (fun _ i _ => k - (intOf i).toNat)
                case atStart => exact ⟨0, by omega, rfl, rfl, 0, rfl⟩
                case round =>
                  obtain ⟨j, hj, rfl, rfl, q, rfl⟩ := hrel
                  by_cases hlt : j < k
                  · obtain ⟨p0, hp0, gc0⟩ := hF.at0 (show j < n0 by omega)
                    obtain ⟨p1, hp1, gc1⟩ := hF.at1 (show j < n1 by omega)
                    have hc0 := gc0 W3 hbel
                    have hc1 := gc1 W3 hbel
                    clear gc0 gc1
                    obtain ⟨f, hf⟩ := Int.eq_ofNat_of_zero_le (HN.out j hlt).1
                    have hf2 := (HN.out j hlt).2
                    have HFK : Hid (fs.getD j 0 = (f : Int) ∧ f < 2305843009213693952) := ⟨hf, by omega⟩
                    rw [hf] at hc1
                    clear hf hf2
                    have hwf : IntKind.u64.wrap (f : Int) = (f : Int) := u64_wrap_id _ (by omega) (by have := HFK.out.2; omega)
                    obtain ⟨r, hr⟩ := enc_split bs fs vs ds j k hlt
                    rw [← HE.out] at hr
                    obtain ⟨pre, hpre⟩ : ∃ pre, pre = enc bs fs vs ds j := ⟨_, rfl⟩
                    rw [← hpre] at hr
                    rw [← hpre]
                    have HP : Hid (pre = enc bs fs vs ds j) := hpre
                    clear hpre
                    by_cases hbk : bs.getD j false = true
                    · obtain ⟨p3, hp3, gc3⟩ := hF.at3 (show j < n3 by omega)
                      have hc3 := gc3 W3 hbel
                      clear gc3
                      rw [hbk] at hc0
                      obtain ⟨d, hd⟩ : ∃ d, d = ds.getD j ByteArray.empty := ⟨_, rfl⟩
                      rw [← hd] at hc3
                      have hdz : d.size ≤ 1048576 := by rw [hd]; exact HZ.out j (by omega)
                      have HX : Hid (pre ++ fB f d.data.toList = enc bs fs vs ds (j + 1)) := by
                        show _ = _
                        rw [enc, item, hbk, if_pos rfl, HFK.out.1, ← hd, ← HP.out]
                        rfl
                      rw [hbk, HFK.out.1, ← hd] at hr
                      have hr2 : L = pre ++ (fB f d.data.toList ++ r) := hr
                      clear hbk hd hr
                      obtain ⟨T, P1, P2, hP2, hT8, hT7, hr1, hr3, hPN, hby⟩ := stepB W3 ao N cap L pre r f d hR HNN.out hNle hr2 HFK.out.2 hdz
                      have HQ : Hid (P2 + d.size = (enc bs fs vs ds (j + 1)).length) := by
                        show _ = _
                        rw [← HX.out]
                        exact hP2
                      have hPN2 : (P2 : Int) + (d.size : Int) ≤ (N : Int) := by omega
                      have HBY : Hid (∀ i (hi : i < d.size), ∃ p : Addr, (∀ c W, (Instr.indexAt 29 (.slice ao N c) (.int .i64 ((P2 : Int) + (i : Int)))).run Try.prog W = .ok (.pointer (some p)) W) ∧ W3.cell? p = some (.int .u8 (d[i]).toNat)) := hby
                      clear hP2 hr2 hby
                      go_wp2_with fail
                      refine (hr1 _).mono ?_
                      rintro e w6 ⟨rfl, rfl⟩
                      go_wp2_with fail
                      refine (hr3 _).mono ?_
                      rintro e w7 ⟨rfl, rfl⟩
                      go_wp2_with fail
                      go_loopw [24] (fun i wx => ∃ i' : Nat, i' ≤ d.size ∧ i = .int .i64 i' ∧ ∃ q, wx = W3.drewN q) (fun i _ => d.size - (intOf i).toNat)
                      case atStart => exact ⟨0, by omega, rfl, q, rfl⟩
                      case round =>
                        obtain ⟨i, hi, rfl, q2, rfl⟩ := hrel
                        by_cases hid : i < d.size
                        · obtain ⟨pb, hpb, hcb⟩ := HBY.out i hid
                          go_wp2
                          go_quiet (fail)
                          go_wp2
                          go_light
                          exact ⟨⟨i + 1, by omega, by go_num, _, rfl⟩, by simp [intOf]; omega⟩
                        · have hie : i = d.size := by omega
                          subst hie
                          go_wp2
                          go_light
                          exact ⟨⟨j + 1, by omega, by go_num, by rw [← HQ.out]; go_num, q2, rfl⟩, by simp [intOf]; omega⟩
                    · obtain ⟨p2, hp2, gc2⟩ := hF.at2 (show j < n2 by omega)
                      have hc2 := gc2 W3 hbel
                      clear gc2
                      rw [Bool.not_eq_true] at hbk
                      rw [hbk] at hc0
                      have hb2 := hF.b2 j
                      obtain ⟨x, hx⟩ := Int.eq_ofNat_of_zero_le hb2.1
                      rw [hx] at hc2 hb2
                      have HX : Hid (pre ++ fU f x = enc bs fs vs ds (j + 1)) := by
                        show _ = _
                        rw [enc, item, hbk, HFK.out.1, hx, ← HP.out]
                        rfl
                      rw [hbk, HFK.out.1, hx] at hr
                      have hr2 : L = pre ++ (fU f x ++ r) := hr
                      clear hbk hx hr
                      by_cases hx0 : x = 0
                      · subst hx0
                        have HQ : Hid (pre.length = (enc bs fs vs ds (j + 1)).length) := by
                          show _ = _
                          rw [← HX.out]
                          simp [fU]
                        clear hr2 hb2
                        go_wp2
                        go_light
                        exact ⟨⟨j + 1, by omega, by go_num, by rw [HQ.out], q, rfl⟩, by simp [intOf]; omega⟩
                      · obtain ⟨T, P1, P2, hP2, hT8, hT7, hr1, hr3⟩ := stepU W3 ao N cap L pre r f x hR HNN.out hNle hr2 HFK.out.2 (by omega) (by omega)
                        have HQ : Hid (P2 = (enc bs fs vs ds (j + 1)).length) := by
                          show _ = _
                          rw [← HX.out]
                          exact hP2
                        have hxp : 0 < x := by omega
                        clear hP2 hr2 hb2 hx0
                        go_wp2_with fail
                        refine (hr1 _).mono ?_
                        rintro e w6 ⟨rfl, rfl⟩
                        go_wp2_with fail
                        refine (hr3 _).mono ?_
                        rintro e w7 ⟨rfl, rfl⟩
                        go_wp2
                        go_light
                        exact ⟨⟨j + 1, by omega, by go_num, by rw [HQ.out], q, rfl⟩, by simp [intOf]; omega⟩
                  · have hjk : j = k := by omega
                    subst hjk
                    have HQ : Hid ((enc bs fs vs ds j).length = N) := by
                      show _ = _
                      rw [← HE.out]
                      exact HNN.out.symm
                    rw [HQ.out]
                    go_wp2
                    go_ret
                    exact ⟨rfl, bel_drewN' hbel _⟩

#print axioms fields_walk
end Go.Proofs.Qxb6619700a
