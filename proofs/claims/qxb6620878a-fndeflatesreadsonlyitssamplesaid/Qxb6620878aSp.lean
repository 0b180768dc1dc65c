/- The sample laid in order: its counts. -/
import Derived.Test.Qxb6620878aEv
namespace Go.Proofs.Qxb6620878a

/-- the bytes below v, each as often as C says -/
def srt (C : Nat → Nat) : Nat → List Nat
  | 0 => []
  | v + 1 => srt C v ++ List.replicate (C v) v
theorem srt_length (C : Nat → Nat) : ∀ v, (srt C v).length = below C v
  | 0 => rfl
  | v + 1 => by simp [srt, below, srt_length C v]
theorem srt_small (C : Nat → Nat) : ∀ v, ∀ x ∈ srt C v, x < v
  | 0 => by simp [srt]
  | v + 1 => by
    intro x hx
    rw [srt, List.mem_append] at hx
    rcases hx with h | h
    · have := srt_small C v x h; omega
    · have := (List.mem_replicate.1 h).2; omega
theorem srt_count (C : Nat → Nat) (u : Nat) : ∀ v, (srt C v).count u = if u < v then C u else 0
  | 0 => by simp [srt]
  | v + 1 => by
    rw [srt, List.count_append, srt_count C u v, List.count_replicate]
    by_cases h : v = u
    · subst h
      simp
    · by_cases hl : u < v
      · simp [h, hl, Nat.lt_succ_of_lt hl]
      · simp [h, hl, show ¬ u < v + 1 by omega]

/-- a list as a function -/
def fn (l : List Nat) : Nat → Nat := fun k => l.getD k 0
theorem fn_small {l : List Nat} (h : ∀ x ∈ l, x < 256) (k : Nat) : fn l k < 256 := by
  unfold fn
  rcases Nat.lt_or_ge k l.length with hk | hk
  · rw [List.getD_eq_getElem?_getD, List.getElem?_eq_getElem hk]
    exact h _ (List.getElem_mem hk)
  · rw [List.getD_eq_getElem?_getD, List.getElem?_eq_none hk]
    decide
theorem win_count (l : List Nat) (u : Nat) : ∀ j, j ≤ l.length → win (fn l) z0 0 j u = (l.take j).count u
  | 0, _ => by simp [win, z0]
  | j + 1, h => by
    have hj : j < l.length := by omega
    rw [List.take_succ_eq_append_getElem hj, List.count_append, ← win_count l u j (by omega), List.count_singleton]
    simp only [win, inc, Nat.zero_add]
    have e : fn l j = l[j] := by simp [fn, List.getD_eq_getElem?_getD, List.getElem?_eq_getElem hj]
    rw [e]
    by_cases hu : u = l[j]
    · simp [hu]
    · have hu2 : (l[j] == u) = false := by simp; exact fun e => hu e.symm
      rw [if_neg hu, hu2]
      simp

/-- one window as a list; the sample as a list -/
def wl (g : Nat → Nat) (s m : Nat) : List Nat := (List.range m).map fun j => g (s + j)
theorem wl_count (g : Nat → Nat) (s u : Nat) : ∀ m, (wl g s m).count u = win g z0 s m u
  | 0 => by simp [wl, win, z0]
  | m + 1 => by
    have := wl_count g s u m
    unfold wl at this ⊢
    rw [List.range_succ, List.map_append, List.count_append, this]
    simp only [win, inc, List.map_cons, List.map_nil, List.count_singleton]
    by_cases hu : u = g (s + m)
    · simp [hu]
    · have hu2 : (g (s + m) == u) = false := by simp; exact fun e => hu e.symm
      rw [if_neg hu, hu2]
      simp
def sl (g : Nat → Nat) (n : Nat) : Nat → List Nat
  | 0 => []
  | i + 1 => sl g n i ++ wl g (at7 n i) 1024
theorem wl_length (g : Nat → Nat) (s m : Nat) : (wl g s m).length = m := by simp [wl]
theorem sl_length (g : Nat → Nat) (n : Nat) : ∀ i, (sl g n i).length = 1024 * i
  | 0 => rfl
  | i + 1 => by rw [sl, List.length_append, sl_length g n i, wl_length]; omega
theorem sl_count (g : Nat → Nat) (n u : Nat) : ∀ i, (sl g n i).count u = cnt g n i u
  | 0 => by simp [sl, cnt]
  | i + 1 => by rw [sl, List.count_append, sl_count g n u i, wl_count, cnt, win_add g (cnt g n i)]
theorem sl_small {g : Nat → Nat} (h : ∀ k, g k < 256) (n : Nat) : ∀ i, ∀ x ∈ sl g n i, x < 256
  | 0 => by simp [sl]
  | i + 1 => by
    intro x hx
    rw [sl, List.mem_append] at hx
    rcases hx with q | q
    · exact sl_small h n i x q
    · unfold wl at q
      obtain ⟨j, _, rfl⟩ := List.mem_map.1 q
      exact h _

theorem cnt_whole (o : Nat → Nat) : ∀ i, cnt o 8192 i = win o z0 0 (1024 * i)
  | 0 => rfl
  | i + 1 => by
    rw [cnt, cnt_whole o i, Nat.mul_succ, win_split, Nat.zero_add, show at7 8192 i = 1024 * i by unfold at7; omega]

/-- THE PLAIN LAW: the sample laid in order has the sample's counts -/
theorem same_counts (g : Nat → Nat) (n u : Nat) (hu : u < 256) (hl : (srt (win (fn (sl g n 8)) z0 0 8192) 256).length = 8192) :
    cnt (fn (srt (win (fn (sl g n 8)) z0 0 8192) 256)) 8192 8 u = cnt g n 8 u := by
  rw [cnt_whole, show 1024 * 8 = 8192 from rfl, win_count _ _ _ (by omega), List.take_of_length_le (by omega), srt_count, if_pos hu, win_count _ _ _ (by rw [sl_length]; omega), List.take_of_length_le (by rw [sl_length]; omega), sl_count]
theorem entr_congr {q C C' : Nat → Nat} : ∀ v, (∀ u, u < v → C u = C' u) → entr q C v = entr q C' v
  | 0, _ => rfl
  | v + 1, h => by
    simp only [entr]
    rw [entr_congr v (fun u hu => h u (by omega)), h v (by omega)]
end Go.Proofs.Qxb6620878a
