/- FnStrInternsEachStringOnceInFirstSeenOrder, first part: the state of a Builder; the shims; the string table's map. -/
import Derived.Test.Qxb6619700aFld1
import Derived.Maps.OwnSet
import Derived.OneCell
import Derived.Deep.Light
namespace Go.Proofs.Qxb6619700a
open Go.RowKit Go.Maps

/-! ### the map, as a datum -/
def klit (s : ByteArray) : Lit := .string s.data.toList
theorem klit_inj {s t : ByteArray} (h : klit s = klit t) : s = t := by
  unfold klit at h
  simp at h
  exact WideShapes.bytes_inj (by rw [h])

/-- THE MAP KNOWS EACH STRING OF ds AT ITS PLACE, AND NO OTHER. -/
structure MapIs (D : DataW Unit) (ds : List ByteArray) : Prop where
  hasY : ∀ s, s ∈ ds → Maps.has D (klit s) = true
  hasN : ∀ s, s ∉ ds → Maps.has D (klit s) = false
  at' : ∀ i (hi : i < ds.length), D.atKey (klit ds[i]) (.lit (.int .i64 0)) = .lit (.int .i64 i)
  size : Maps.size D = ds.length

theorem MapIs.nil : MapIs (.map []) [] := ⟨fun s h => by simp at h, fun s _ => by simp [Maps.has], fun i hi => by simp at hi, rfl⟩

theorem MapIs.put {D : DataW Unit} {ds : List ByteArray} (h : MapIs D ds) (hD : Tidy D) (s : ByteArray) (hs : s ∉ ds) : MapIs (D.put (klit s) (.lit (.int .i64 ds.length))) (ds ++ [s]) := by
  refine ⟨fun t ht => ?_, fun t ht => ?_, fun i hi => ?_, ?_⟩
  · by_cases e : t = s
    · subst e
      exact has_put_same hD.isMap (by simp [klit, WideAt.IsKeyLit]) _
    · rw [has_put_other (fun he => e (klit_inj he))]
      refine h.hasY t ?_
      rw [List.mem_append, List.mem_singleton] at ht
      exact ht.resolve_right e
  · rw [List.mem_append, List.mem_singleton] at ht
    rw [has_put_other (fun he => ht (.inr (klit_inj he)))]
    exact h.hasN t (fun h1 => ht (.inl h1))
  · rw [List.length_append, List.length_singleton] at hi
    by_cases hi2 : i < ds.length
    · have e : (ds ++ [s])[i] = ds[i] := List.getElem_append_left hi2
      rw [e, atKey_put_other, h.at' i hi2]
      intro he
      exact hs (klit_inj he ▸ List.getElem_mem hi2)
    · have hie : i = ds.length := by omega
      subst hie
      have e : (ds ++ [s])[ds.length] = s := by simp
      rw [e, atKey_put_same hD.isMap (by simp [klit, WideAt.IsKeyLit])]
  · rw [size_put hD, h.hasN s hs, h.size]
    simp

/-! ### the string table -/
def tabS : List ByteArray → List UInt8
  | [] => []
  | s :: t => fB 6 s.data.toList ++ tabS t
theorem tabS_append : ∀ (a b : List ByteArray), tabS (a ++ b) = tabS a ++ tabS b
  | [], b => rfl
  | s :: a, b => by simp [tabS, tabS_append a b]
theorem tabS_snoc (ds : List ByteArray) (s : ByteArray) : tabS (ds ++ [s]) = tabS ds ++ fB 6 s.data.toList := by
  rw [tabS_append]; simp [tabS]
theorem fB6_len (s : ByteArray) : (fB 6 s.data.toList).length = 1 + (Lib.uvarint s.size).length + s.size := by
  have h1 : s.data.toList.length = s.size := by simp
  have h2 : Lib.uvarint 50 = [(50 : Nat).toUInt8] := Lib.uvarint_small (by omega)
  unfold fB
  rw [List.length_append, List.length_append, h1]
  show (Lib.uvarint 50).length + _ = _
  rw [h2]
  simp
  omega
theorem tabS_len : ∀ ds : List ByteArray, (∀ d ∈ ds, d.size ≤ 1048576) → (tabS ds).length ≤ ds.length * 2097152
  | [], _ => by simp [tabS]
  | s :: t, h => by
    have h1 := tabS_len t (fun d hd => h d (by simp [hd]))
    have h2 := h s (by simp)
    have h3 := Lib.uvarint_length64 (x := s.size) (by omega)
    rw [tabS, List.length_append, fB6_len, List.length_cons]
    omega

/-! ### the Builder -/
def bcells (gm : Nat) (t : Value) : Array Value := #[.slice none 0 0, .slice none 0 0, .map (some gm), .map none, .map none, t, .slice none 0 0, .slice none 0 0, .slice none 0 0]

structure Bld (w : World) (B gb gm : Nat) (ds : List ByteArray) (ao : Option Addr) (cap : Nat) : Prop where
  hb : w.heap[gb]? = some (.cells (bcells gm (.slice ao (tabS ds).length cap)) 47 (0, 0))
  hm : ∃ D : DataW Unit, w.ownsMap Try.prog 9 (plainElem Try.prog 2) gm ds.length D ∧ MapIs D ds
  ht : w.ownsRow B 5 1 (.slice ao (tabS ds).length cap) (tabS ds).length (Lib.byteCells (tabS ds))
  hB : B ≤ gb ∧ B ≤ gm

section
variable {w : World} {B gb gm : Nat} {ds : List ByteArray} {ao : Option Addr} {cap : Nat}

theorem Bld.map_block (h : Bld w B gb gm ds ao cap) : ∃ es c, w.heap[gm]? = some (.map es c) := by
  obtain ⟨D, ⟨es, c, h1, _⟩, _⟩ := h.hm
  exact ⟨es, c, h1⟩
theorem Bld.row_block (h : Bld w B gb gm ds ao cap) {g : Nat} (hg : (Value.slice ao (tabS ds).length cap).ownBlock = some g) : ∃ cur, w.heap[g]? = some (.cells cur 5 (0, 0)) := by
  rcases h.ht.2 with ⟨hv, _⟩ | ⟨g', cap', cur, hv, _, hh, _⟩
  · rw [hv] at hg; simp [Value.ownBlock] at hg
  · rw [hv] at hg
    simp [Value.ownBlock] at hg
    subst hg
    exact ⟨cur, hh⟩
theorem Bld.gb_gm (h : Bld w B gb gm ds ao cap) : gb ≠ gm := by
  intro e
  obtain ⟨es, c, h1⟩ := h.map_block
  have := h.hb
  rw [e, h1] at this
  simp at this
theorem Bld.row_gb (h : Bld w B gb gm ds ao cap) : (Value.slice ao (tabS ds).length cap).ownBlock ≠ some gb := by
  intro e
  obtain ⟨cur, h1⟩ := h.row_block e
  have := h.hb
  rw [h1] at this
  simp at this
theorem Bld.row_gm (h : Bld w B gb gm ds ao cap) : (Value.slice ao (tabS ds).length cap).ownBlock ≠ some gm := by
  intro e
  obtain ⟨cur, h1⟩ := h.row_block e
  obtain ⟨es, c, h2⟩ := h.map_block
  rw [h1] at h2
  simp at h2
theorem Bld.lt (h : Bld w B gb gm ds ao cap) : gb < w.heap.size ∧ gm < w.heap.size := by
  obtain ⟨es, c, h2⟩ := h.map_block
  exact ⟨(Array.getElem?_eq_some_iff.1 h.hb).1, (Array.getElem?_eq_some_iff.1 h2).1⟩
theorem Bld.c2 (h : Bld w B gb gm ds ao cap) : w.cell? ⟨gb, 2, none⟩ = some (.map (some gm)) := by
  rw [cell_of_row w gb 2 _ _ _ h.hb]; rfl
theorem Bld.c5 (h : Bld w B gb gm ds ao cap) : w.cell? ⟨gb, 5, none⟩ = some (.slice ao (tabS ds).length cap) := by
  rw [cell_of_row w gb 5 _ _ _ h.hb]; rfl
theorem Bld.f5 (h : Bld w B gb gm ds ao cap) : w.frozen? ⟨gb, 5, none⟩ = false := frozen_of_row w gb 5 _ _ h.hb

/-- the Builder stays what it is while blocks that are none of its own turn -/
theorem Bld.kept {w' : World} (h : Bld w B gb gm ds ao cap) (hs : ∀ k, k < w.heap.size → (k = gb ∨ k = gm ∨ (Value.slice ao (tabS ds).length cap).ownBlock = some k) → w'.heap[k]? = w.heap[k]?) : Bld w' B gb gm ds ao cap := by
  obtain ⟨l1, l2⟩ := h.lt
  refine ⟨(hs gb l1 (.inl rfl)).trans h.hb, ?_, ?_, h.hB⟩
  · obtain ⟨D, ⟨es, c, h1, h2⟩, h3⟩ := h.hm
    exact ⟨D, ⟨es, c, (hs gm l2 (.inr (.inl rfl))).trans h1, h2⟩, h3⟩
  · refine ⟨h.ht.1, ?_⟩
    rcases h.ht.2 with hv | ⟨g, cap', cur, hv, hg, hh, r⟩
    · exact .inl hv
    · exact .inr ⟨g, cap', cur, hv, hg, (hs g (Array.getElem?_eq_some_iff.1 hh).1 (.inr (.inr (by rw [hv]; rfl)))).trans hh, r⟩
end

theorem law9 : Keyed Try.prog 9 := string_keyed Try.underlying9
theorem zero2 (w : World) : (zeroValue 2).run Try.prog w = .ok (.int .i64 0) w := by kernel_rfl
theorem und2 : Try.prog.underlying 2 = some (.int .i64) := by kernel_rfl
theorem und43 : Try.prog.underlying 43 = some (.map 9 2) := by kernel_rfl

set_option maxRecDepth 100000 in
/-- the shim that hands the table out -/
theorem table_any {w : World} {B gb gm : Nat} {ds : List ByteArray} {ao : Option Addr} {cap : Nat} (h : Bld w B gb gm ds ao cap) :
    Calls Try.prog 10 #[.pointer (some ⟨gb, 0, none⟩)] w fun e w' => e = .returned (.slice ao (tabS ds).length cap) ∧ w = w' := by
  have hc := h.c5
  generalize (tabS ds).length = N at hc ⊢
  clear h
  go_enter Try.func10, Try.ntmps10
  go_wp2
  go_ret
  exact ⟨rfl, rfl⟩

set_option maxRecDepth 100000 in
/-- a new Builder -/
theorem new_any (w : World) :
    Calls Try.prog 7 #[] w fun e w' => e = .returned (.pointer (some ⟨w.heap.size + 1, 0, none⟩)) ∧ Bld w' w.heap.size (w.heap.size + 1) w.heap.size [] none 0 ∧ Below w.heap.size w w' := by
  have hmm := @run_makeMap Try.prog
  go_enter Try.func7, Try.ntmps7
  go_wp2
  go_ret
  refine ⟨rfl, ⟨?_, ?_, ?_, by omega⟩, ((Below.refl _ _).alloc (Nat.le_refl _) _).alloc (by simp) _⟩
  · have h := heap_alloc_new (w.alloc (.map #[] 0)) (.cells (bcells w.heap.size (.slice none 0 0)) 47)
    have e : (w.alloc (.map #[] 0)).heap.size = w.heap.size + 1 := by simp
    rw [e] at h
    exact h
  · exact ⟨.map [], (World.ownsMap_made w Try.prog 9 (plainElem Try.prog 2)).alloc _, MapIs.nil⟩
  · exact World.ownsRow_nil _ _ _ _

set_option maxRecDepth 100000 in
/-- zzUvarintLen -/
theorem uvlen_any (x : Nat) (hx : x < 18446744073709551616) (w : World) :
    Calls Try.prog 8 #[.int .u64 x] w fun e w' => e = .returned (.int .i64 (Lib.uvarint x).length) ∧ w = w' := by
  have h10 := Lib.uvarint_length64 hx
  go_enter Try.func8, Try.ntmps8
  go_wp2
  go_loop [0, 3] (fun vx vn => ∃ y n : Nat, vx = .int .u64 y ∧ vn = .int .i64 n ∧ y ≤ x ∧ n + (Lib.uvarint y).length = (Lib.uvarint x).length + 1) (fun vx _ => (intOf vx).toNat)
  case atStart => exact ⟨x, 1, rfl, rfl, Nat.le_refl _, by omega⟩
  case round =>
    obtain ⟨y, n, rfl, rfl, hy, hn⟩ := hrel
    by_cases h128 : 128 ≤ y
    · have hl : (Lib.uvarint y).length = (Lib.uvarint (y / 128)).length + 1 := by rw [Lib.uvarint_big h128]; simp
      have HN : Hid (n + 1 + (Lib.uvarint (y / 128)).length = (Lib.uvarint x).length + 1) := by show _ = _; omega
      have hnb : n ≤ 20 := by omega
      clear hn hl
      go_wp2
      exact ⟨⟨y / 128, n + 1, by go_num, by go_num, by omega, HN.out⟩, by simp [intOf]; omega⟩
    · have hl : (Lib.uvarint y).length = 1 := by rw [Lib.uvarint_small (by omega)]; rfl
      have HN : Hid (n = (Lib.uvarint x).length) := by show _ = _; omega
      clear hn hl
      go_wp2
      go_ret
      exact ⟨by rw [← HN.out]; rfl, rfl⟩

/-- appendBytes as the Builder calls it: the data lie in the new row of a conversion -/
theorem call20 (W : World) (B : Nat) (l : List UInt8) (sv : Value) (c : Nat) (d : ByteArray) (hown : W.ownsRow B 5 1 sv l.length (Lib.byteCells l)) (hBW : B ≤ W.heap.size) (hd : d.size ≤ 1048576) (hl : l.length ≤ 1099511627776) :
    Calls Try.prog 20 #[sv, .int .i64 6, .slice (some ⟨W.heap.size, 0, none⟩) d.size c] (Lib.bytesWorld W 5 d) fun e w' => ∃ ao cap, e = .returned (.slice ao (l ++ fB 6 d.data.toList).length cap) ∧
      w'.ownsRow B 5 1 (.slice ao (l ++ fB 6 d.data.toList).length cap) (l ++ fB 6 d.data.toList).length (Lib.byteCells (l ++ fB 6 d.data.toList)) ∧ W.grownBy w' sv.ownBlock ∧ (∀ g, (Value.slice ao (l ++ fB 6 d.data.toList).length cap).ownBlock = some g → sv.ownBlock = some g ∨ W.heap.size ≤ g) := by
  have hg : W.grownBy (Lib.bytesWorld W 5 d) none := grown_bytes W d
  have hsz : (Lib.bytesWorld W 5 d).heap.size = W.heap.size + 1 := Lib.bytesWorld_size W 5 d
  have hdl : d.data.toList.length = d.size := by simp
  have h := ab B l.length 6 d.data.toList ⟨W.heap.size, 0, none⟩ c (by omega) (by omega) sv (Lib.byteCells l) (Lib.bytesWorld W 5 d) (kept_none' hown hg) (by omega) (by omega)
    (by
      intro e
      have := (hown.lt _ e).2
      simp at this)
    (by
      intro j hj
      rw [hdl] at hj
      have := Lib.bytesWorld_cell W 5 d j hj
      have e1 : d.data.toList.getD j 0 = d.data.toList[j]'(by omega) := by simp [List.getD, hj]
      rw [e1] at this
      have e2 : (⟨W.heap.size, 0, none⟩ : Addr).add j = ⟨W.heap.size, j, none⟩ := by rw [add_at0]
      rw [e2]
      exact this)
  rw [hdl] at h
  refine h.mono ?_
  rintro e w' ⟨v', rfl, ho, hgr⟩
  rw [← Lib.byteCells_append, ← List.length_append] at ho
  obtain ⟨ao, cap, rfl⟩ := shape0 ho
  refine ⟨ao, cap, rfl, ho, ?_, fun g hg => ?_⟩
  · have h2 := hgr.grown
    exact ⟨h2.os.trans hg.os, h2.tape.trans hg.tape, h2.output.trans hg.output, Nat.le_trans hg.size h2.size, fun k hk hne => (h2.block k (by omega) hne).trans (hg.block k hk (by simp))⟩
  · rcases hgr.lies g hg with h1 | h1
    · exact .inl h1
    · exact .inr (by omega)

set_option maxRecDepth 100000 in
/-- (*Builder).str of a string that the table knows -/
theorem str_hit {w : World} {B gb gm : Nat} {ds : List ByteArray} {ao : Option Addr} {cap : Nat} (h : Bld w B gb gm ds ao cap) (i : Nat) (hi : i < ds.length) (hs : (ds[i]).size ≤ 1048576) :
    Calls Try.prog 18 #[.pointer (some ⟨gb, 0, none⟩), .string ds[i]] w fun e w' => e = .returned (.int .i64 i) ∧ w = w' := by
  obtain ⟨D, hD, hM⟩ := h.hm
  have hkey : keyOf Try.prog 9 (.string ds[i]) = some (klit ds[i]) := WideMaps.keyOf_string_mk Try.underlying9 (by unfold maxLen; omega)
  obtain ⟨v, ps, hrun, hv⟩ := hD.look_ok law9 und43 (zero2 _) (plainElem_int und2 (by decide)) hkey
  rw [hM.hasY _ (List.getElem_mem hi)] at hrun
  rw [hM.at' i hi] at hv
  obtain ⟨a, rfl, ha, _⟩ := plainElem_int_inv und2 hv
  simp at ha
  obtain ⟨rfl, _⟩ := ha
  have hc := h.c2
  generalize ds[i] = s at *
  clear hD hM h hkey hv
  go_enter Try.func18, Try.ntmps18
  go_wp2
  go_ret
  exact ⟨rfl, rfl⟩

/-- what of the old blocks a new string may turn -/
structure Turned (w w' : World) (gb gm : Nat) (t : Value) : Prop where
  os : w'.os = w.os
  tape : w'.tape = w.tape
  output : w'.output = w.output
  size : w.heap.size ≤ w'.heap.size
  block : ∀ k, k < w.heap.size → k ≠ gb → k ≠ gm → t.ownBlock ≠ some k → w'.heap[k]? = w.heap[k]?

set_option maxRecDepth 100000 in
set_option maxHeartbeats 1000000 in
/-- (*Builder).str of a string that is new -/
theorem str_miss {w : World} {B gb gm : Nat} {ds : List ByteArray} {ao : Option Addr} {cap : Nat} (h : Bld w B gb gm ds ao cap) (s : ByteArray) (hs : s ∉ ds) (hsz : s.size ≤ 1048576) (hl : (tabS ds).length ≤ 1099511627776) (hn : ds.length ≤ 1048576) :
    Calls Try.prog 18 #[.pointer (some ⟨gb, 0, none⟩), .string s] w fun e w' => e = .returned (.int .i64 ds.length) ∧ ∃ ao' cap', Bld w' B gb gm (ds ++ [s]) ao' cap' ∧ Turned w w' gb gm (.slice ao (tabS ds).length cap) := by
  obtain ⟨D, hD, hM⟩ := h.hm
  have hkey : keyOf Try.prog 9 (.string s) = some (klit s) := WideMaps.keyOf_string_mk Try.underlying9 (by unfold maxLen; omega)
  obtain ⟨v, ps, hrun, hv⟩ := hD.look_ok law9 und43 (zero2 _) (plainElem_int und2 (by decide)) hkey
  rw [hM.hasN _ hs] at hrun
  obtain ⟨a, rfl, ha, _⟩ := plainElem_int_inv und2 hv
  have hlen := fun ty => hD.len und43 ty
  rw [hM.size] at hlen
  obtain ⟨w1, hupd, hD1, hg1⟩ := hD.update law9 und43 (by unfold maxLen; omega) hkey (plainElem_int (H := Unit) und2 (a := (ds.length : Int)) (WalkArith.wf_i64 (by omega)))
  have hM1 := hM.put (hD.tidy law9) s hs
  have hc2 := h.c2
  obtain ⟨lb, lm⟩ := h.lt
  have hgg := h.gb_gm
  -- the world behind the map's store
  have hb1 : w1.heap[gb]? = some (.cells (bcells gm (.slice ao (tabS ds).length cap)) 47 (0, 0)) := (hg1.block gb lb (by simpa using hgg)).trans h.hb
  have ht1 : w1.ownsRow B 5 1 (.slice ao (tabS ds).length cap) (tabS ds).length (Lib.byteCells (tabS ds)) := h.ht.kept hg1 (.inr h.row_gm)
  have hc5 : w1.cell? ⟨gb, 5, none⟩ = some (.slice ao (tabS ds).length cap) := by rw [cell_of_row w1 gb 5 _ _ _ hb1]; rfl
  have hB1 : B ≤ w1.heap.size := by have := hg1.size; have := h.hB; omega
  have hcv := fun W => Lib.run_convert_string_bytes (P := Try.prog) W 9 29 5 s Try.underlying9 Try.underlying29 Try.underlying5
  have hcall := fun c => call20 w1 B (tabS ds) (.slice ao (tabS ds).length cap) c s ht1 hB1 hsz hl
  rw [← tabS_snoc] at hcall
  have hrow := h.row_gb
  have hrowm := h.row_gm
  have hBB := h.hB
  obtain ⟨N, hN⟩ : ∃ N, N = (tabS ds).length := ⟨_, rfl⟩
  obtain ⟨N', hN'⟩ : ∃ N', N' = (tabS (ds ++ [s])).length := ⟨_, rfl⟩
  obtain ⟨m, hm⟩ : ∃ m, m = ds.length := ⟨_, rfl⟩
  rw [← hN, ← hN'] at hcall
  rw [← hN] at hc5 hb1 hrow hrowm ⊢
  rw [← hm] at hlen hupd hD1 hM1 ⊢
  have HN' : Hid (N' = (tabS (ds ++ [s])).length) := hN'
  have HD1 : Hid (w1.ownsMap Try.prog 9 (plainElem Try.prog 2) gm (m + 1) (D.put (klit s) (.lit (.int .i64 m)))) := hD1
  have HM1 : Hid (MapIs (D.put (klit s) (.lit (.int .i64 m))) (ds ++ [s])) := hM1
  have HM : Hid (m = ds.length) := hm
  have HB1 : Hid (w1.heap[gb]? = some (.cells (bcells gm (.slice ao N cap)) 47 (0, 0))) := hb1
  have hlt1 := hg1.size
  clear hN hN' hm hb1 hD1 hM1 ht1 hD hM h hkey hv ha
  go_enter Try.func18, Try.ntmps18
  go_wp2_with fail
  refine (hcall _).mono ?_
  rintro e w2 ⟨ao', cap', rfl, ho, hg2, hlies⟩
  have hb2 : w2.heap[gb]? = some (.cells (bcells gm (.slice ao N cap)) 47 (0, 0)) := (hg2.block gb (by omega) (fun e => hrow e.symm)).trans HB1.out
  have HB2 : Hid (w2.heap[gb]? = some (.cells (bcells gm (.slice ao N cap)) 47 (0, 0))) := hb2
  have hc5' : w2.cell? ⟨gb, 5, none⟩ = some (.slice ao N cap) := by rw [cell_of_row w2 gb 5 _ _ _ hb2]; rfl
  have hf5' : w2.frozen? ⟨gb, 5, none⟩ = false := frozen_of_row w2 gb 5 _ _ hb2
  have hsz2 := hg2.size
  clear hb2
  go_wp2
  go_ret
  refine ⟨rfl, ao', cap', ⟨?_, ?_, ?_, hBB⟩, ?_⟩
  · rw [heap_setCell_same w2 gb 5 _ 47 (.slice ao' N' cap') HB2.out, HN'.out]
    rfl
  · refine ⟨_, ?_, HM1.out⟩
    have h1 := HD1.out.kept hg2 (fun e => hrowm e.symm)
    have h2 := h1.setCell (a := ⟨gb, 5, none⟩) (fun e => hgg e.symm) (.slice ao' N' cap')
    rw [List.length_append, List.length_singleton, ← HM.out]
    exact h2
  · rw [← HN'.out]
    exact ownsRow_setCell_other ho (a := ⟨gb, 5, none⟩) (fun e => by
      rcases hlies gb e with h1 | h1
      · exact hrow h1
      · omega) _
  · refine ⟨hg2.os.trans hg1.os, hg2.tape.trans hg1.tape, hg2.output.trans hg1.output, ?_, fun k hk h1 h2 h3 => ?_⟩
    · simp [World.setCell]; omega
    · rw [Below.heap_setCell w2 ⟨gb, 5, none⟩ _ k h1]
      exact (hg2.block k (by omega) (fun e => h3 e.symm)).trans (hg1.block k hk (fun e => h2 (by simpa using e)))

set_option maxRecDepth 100000 in
theorem zstr_hit {w : World} {B gb gm : Nat} {ds : List ByteArray} {ao : Option Addr} {cap : Nat} (h : Bld w B gb gm ds ao cap) (i : Nat) (hi : i < ds.length) (hs : (ds[i]).size ≤ 1048576) :
    Calls Try.prog 9 #[.pointer (some ⟨gb, 0, none⟩), .string ds[i]] w fun e w' => e = .returned (.int .i64 i) ∧ w = w' := by
  have hc := str_hit h i hi hs
  generalize ds[i] = s at *
  clear h
  go_enter Try.func9, Try.ntmps9
  go_wp2_with fail
  refine hc.mono ?_
  rintro e w' ⟨rfl, rfl⟩
  go_wp2
  go_ret
  exact ⟨rfl, rfl⟩

set_option maxRecDepth 100000 in
theorem zstr_miss {w : World} {B gb gm : Nat} {ds : List ByteArray} {ao : Option Addr} {cap : Nat} (h : Bld w B gb gm ds ao cap) (s : ByteArray) (hs : s ∉ ds) (hsz : s.size ≤ 1048576) (hl : (tabS ds).length ≤ 1099511627776) (hn : ds.length ≤ 1048576) :
    Calls Try.prog 9 #[.pointer (some ⟨gb, 0, none⟩), .string s] w fun e w' => e = .returned (.int .i64 ds.length) ∧ ∃ ao' cap', Bld w' B gb gm (ds ++ [s]) ao' cap' ∧ Turned w w' gb gm (.slice ao (tabS ds).length cap) := by
  have hc := str_miss h s hs hsz hl hn
  clear h
  go_enter Try.func9, Try.ntmps9
  go_wp2_with fail
  refine hc.mono ?_
  rintro e w' ⟨rfl, hq⟩
  go_wp2
  go_ret
  exact ⟨rfl, hq⟩

set_option maxRecDepth 100000 in
set_option maxHeartbeats 2000000 in
/-- the bound: it answers, and leaves all as it was -/
theorem bytes6 (a3 : Option Addr) (n3 c3 : Nat) (ds : List ByteArray) (w : World) (h3 : n3 ≤ 9223372036854775807) (hd : Row w a3 n3 (strVals ds)) :
    Calls Try.prog 6 #[.slice a3 n3 c3] w (AnyBool w n3 ds) := by
  go_enter Try.func6, Try.ntmps6
  go_wp2
  iterate 1 (go_ret; exact ⟨_, rfl, rfl, fun h => by cases h⟩)
  go_loop [3, 4] (fun z i => ∃ k : Nat, k ≤ n3 ∧ i = .int .i64 k ∧ (∃ y : Int, z = .int .i64 y) ∧ ∀ j, j < k → (ds.getD j ByteArray.empty).size ≤ 1048576) (fun _ i => n3 - (intOf i).toNat)
  case atStart => exact ⟨0, by omega, rfl, ⟨_, rfl⟩, fun j hj => by omega⟩
  case round =>
    obtain ⟨k, hk, rfl, ⟨y, rfl⟩, hsz⟩ := hrel
    have HZ : Hid (∀ j, j < k → (ds.getD j ByteArray.empty).size ≤ 1048576) := hsz
    clear hsz
    by_cases hlt : k < n3
    · obtain ⟨p, hp, hc⟩ := hd.at 22 t22 s22 hlt
      have hcw := hc w (Below.refl _ _)
      have hkl : k < ds.length := by have := hd.1; simp [strVals] at this; omega
      have he : (strVals ds)[k]'(by rw [hd.1]; exact hlt) = .string (ds.getD k ByteArray.empty) := by simp [strVals, List.getD, hkl]
      rw [he] at hcw
      obtain ⟨s, hs⟩ : ∃ s, s = ds.getD k ByteArray.empty := ⟨_, rfl⟩
      rw [← hs] at hcw
      have HS : Hid (s = ds.getD k ByteArray.empty) := hs
      clear hc he hd hs
      go_wp2
      · go_ret; exact ⟨_, rfl, rfl, fun h => by cases h⟩
      · go_ret; exact ⟨_, rfl, rfl, fun h => by cases h⟩
      · rename (s.size : Int) ≤ 1048576 => hle
        refine ⟨⟨k + 1, by omega, by go_num, ⟨_, rfl⟩, fun j hj => ?_⟩, by simp [intOf]; omega⟩
        rcases Nat.lt_or_ge j k with h | h
        · exact HZ.out j h
        · rw [show j = k by omega, ← HS.out]; omega
    · go_wp2
      go_ret
      exact ⟨_, rfl, rfl, fun _ j hj => HZ.out j (by omega)⟩

#print axioms zstr_hit
#print axioms zstr_miss
#print axioms bytes6
#print axioms uvlen_any
end Go.Proofs.Qxb6619700a
