/- FnStrInternsEachStringOnceInFirstSeenOrder, second part: what one round leaves; reading the table back. -/
import Derived.Test.Qxb6619700aStr0
namespace Go.Proofs.Qxb6619700a
open Go.RowKit Go.Maps

theorem info9 : (Try.prog.info? 9).map (fun i => (i.zero, i.size, i.bytes)) = some (some (.string ByteArray.empty), 1, 16) := by kernel_rfl

/-- THE STATE AT A ROUND's HEAD: the distinct strings so far in a slice of the call's own, and in the Builder. -/
structure St (w wr : World) (ds : List ByteArray) (vd : Value) (ao : Option Addr) (cap k : Nat) : Prop where
  own : wr.ownsRow w.heap.size 9 1 vd ds.length (strVals ds)
  bld : Bld wr w.heap.size (w.heap.size + 1) w.heap.size ds ao cap
  bel : Below w.heap.size w wr
  len : ds.length ≤ k
  sz : ∀ d ∈ ds, d.size ≤ 1048576

theorem shape9 {w : World} {B n : Nat} {v : Value} {xs : List Value} (h : w.ownsRow B 9 1 v n xs) : ∃ ad cd, v = .slice ad n cd := by
  rcases h.2 with ⟨hv, h0⟩ | ⟨g, cap, cur, hv, _, _, h1, h2, _⟩
  · exact ⟨none, 0, by rw [hv, h0]⟩
  · exact ⟨_, cap, hv⟩
theorem row9_block {w : World} {B n : Nat} {v : Value} {xs : List Value} (h : w.ownsRow B 9 1 v n xs) {g : Nat} (hg : v.ownBlock = some g) : ∃ cur, w.heap[g]? = some (.cells cur 9 (0, 0)) := by
  rcases h.2 with ⟨hv, _⟩ | ⟨g', cap', cur, hv, _, hh, _⟩
  · rw [hv] at hg; simp [Value.ownBlock] at hg
  · rw [hv] at hg
    simp [Value.ownBlock] at hg
    subst hg
    exact ⟨cur, hh⟩
/-- the distinct strings lie in none of the Builder's blocks -/
theorem apart9 {w : World} {B B' gb gm n : Nat} {ds : List ByteArray} {ao : Option Addr} {cap : Nat} {v : Value} {xs : List Value} (h : w.ownsRow B' 9 1 v n xs) (hb : Bld w B gb gm ds ao cap) {g : Nat} (hg : v.ownBlock = some g) :
    g ≠ gb ∧ g ≠ gm ∧ (Value.slice ao (tabS ds).length cap).ownBlock ≠ some g := by
  obtain ⟨cur, h1⟩ := row9_block h hg
  refine ⟨fun e => ?_, fun e => ?_, fun e => ?_⟩
  · have := hb.hb; rw [← e, h1] at this; simp at this
  · obtain ⟨es, c, h2⟩ := hb.map_block; rw [← e, h1] at h2; simp at h2
  · obtain ⟨c2, h2⟩ := hb.row_block e; rw [h1] at h2; simp at h2

/-- behind 'distinct = append(distinct, s)' -/
theorem St.appended {w wr w1 : World} {ds : List ByteArray} {vd v' : Value} {ao : Option Addr} {cap k : Nat} (h : St w wr ds vd ao cap k) (s : ByteArray) (o : Obj)
    (hown : w1.ownsRow w.heap.size 9 1 v' (ds.length + 1) (strVals ds ++ [.string s])) (hg : (wr.alloc o).grownBy w1 vd.ownBlock) :
    w1.ownsRow w.heap.size 9 1 v' (ds ++ [s]).length (strVals (ds ++ [s])) ∧ Bld w1 w.heap.size (w.heap.size + 1) w.heap.size ds ao cap ∧ Below w.heap.size w w1 := by
  have hsz : (wr.alloc o).heap.size = wr.heap.size + 1 := by simp
  refine ⟨?_, ?_, ?_⟩
  · rw [List.length_append, List.length_singleton]
    have e : strVals (ds ++ [s]) = strVals ds ++ [.string s] := by simp [strVals]
    rw [e]
    exact hown
  · refine h.bld.kept (fun j hj hk => ?_)
    refine (hg.block j (by omega) (fun e => ?_)).trans (Below.heap_alloc wr o j hj)
    have ha := apart9 h.own h.bld e.symm
    rcases hk with hk | hk | hk
    · exact ha.1 hk
    · exact ha.2.1 hk
    · exact ha.2.2 hk
  · exact (h.bel.alloc h.bel.size o).grown hg (by have := h.bel.size; omega) (fun j hj => (h.own.lt j hj).1)

/-- behind 'b.str(s)' of a new string -/
theorem St.stored {w w1 w2 : World} {ds : List ByteArray} {v' : Value} {ao ao' : Option Addr} {cap cap' k : Nat} {s : ByteArray}
    (ho : w1.ownsRow w.heap.size 9 1 v' (ds ++ [s]).length (strVals (ds ++ [s]))) (hb : Bld w1 w.heap.size (w.heap.size + 1) w.heap.size ds ao cap) (hbel : Below w.heap.size w w1)
    (hb2 : Bld w2 w.heap.size (w.heap.size + 1) w.heap.size (ds ++ [s]) ao' cap') (ht : Turned w1 w2 (w.heap.size + 1) w.heap.size (.slice ao (tabS ds).length cap))
    (hlen : ds.length ≤ k) (hsz : ∀ d ∈ ds, d.size ≤ 1048576) (hs : s.size ≤ 1048576) : St w w2 (ds ++ [s]) v' ao' cap' (k + 1) := by
  refine ⟨?_, hb2, ?_, by rw [List.length_append, List.length_singleton]; omega, fun d hd => ?_⟩
  · refine ⟨ho.1, ?_⟩
    rcases ho.2 with hv | ⟨g, cap', cur, hv, hg, hh, r⟩
    · exact .inl hv
    · have ha := apart9 ho hb (show v'.ownBlock = some g by rw [hv]; rfl)
      exact .inr ⟨g, cap', cur, hv, hg, (ht.block g (Array.getElem?_eq_some_iff.1 hh).1 ha.1 ha.2.1 ha.2.2).trans hh, r⟩
  · refine hbel.trans ⟨ht.os, ht.tape, ht.output, ht.size, fun j hj => ht.block j (by have := hbel.size; omega) (by omega) (by omega) (fun e => ?_)⟩
    have := (hb.ht.lt j e).1
    omega
  · rw [List.mem_append, List.mem_singleton] at hd
    rcases hd with hd | hd
    · exact hsz d hd
    · rw [hd]; exact hs

/-- one of the distinct strings, read through the slice -/
theorem dist_at {w : World} {B n : Nat} {ds : List ByteArray} {ad : Option Addr} {cd : Nat} (h : w.ownsRow B 9 1 (.slice ad n cd) n (strVals ds)) {i : Nat} (hi : i < n) :
    ∃ p : Addr, (∀ c W, (Instr.indexAt 22 (.slice ad n c) (.int .i64 (i : Int))).run Try.prog W = .ok (.pointer (some p)) W) ∧ w.cell? p = some (.string (ds.getD i ByteArray.empty)) := by
  have hl : ds.length = n := by have := h.1; simp [strVals] at this; omega
  rcases h.2 with ⟨_, h0⟩ | ⟨g, cap, cur, hv, _, _, h1, h2, _⟩
  · omega
  · simp at hv
    obtain ⟨rfl, rfl⟩ := hv
    refine ⟨⟨g, i, none⟩, fun c W => ?_, ?_⟩
    · have h1 : (0 : Int) ≤ (i : Int) := by omega
      have h2 : (i : Int) < (n : Int) := by omega
      rw [run_indexAt_slice _ _ _ _ _ _ _ t22, if_pos ⟨h1, h2⟩, s22]
      simp [Result.andThen, Addr.add]
      exact fun e => e.symm
    · rw [h.cellAt i (by omega)]
      simp [strVals, List.getD, show i < ds.length by omega]

theorem tabS_split (ds : List ByteArray) (i : Nat) (hi : i < ds.length) : tabS ds = tabS (ds.take i) ++ (fB 6 (ds.getD i ByteArray.empty).data.toList ++ tabS (ds.drop (i + 1))) := by
  have e : ds.getD i ByteArray.empty = ds[i] := by simp [List.getD, hi]
  have h : ds = ds.take i ++ (ds[i] :: ds.drop (i + 1)) := by rw [← List.drop_eq_getElem_cons hi, List.take_append_drop]
  rw [e]
  conv => lhs; rw [h]
  rw [tabS_append, tabS]
theorem tabS_take_succ (ds : List ByteArray) (i : Nat) (hi : i < ds.length) : tabS (ds.take (i + 1)) = tabS (ds.take i) ++ fB 6 (ds.getD i ByteArray.empty).data.toList := by
  have e : ds.getD i ByteArray.empty = ds[i] := by simp [List.getD, hi]
  rw [List.take_succ_eq_append_getElem hi, tabS_snoc, e]

#print axioms St.appended
#print axioms St.stored
#print axioms dist_at
end Go.Proofs.Qxb6619700a
