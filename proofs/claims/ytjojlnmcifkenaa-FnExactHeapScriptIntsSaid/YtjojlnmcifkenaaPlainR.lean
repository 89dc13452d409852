/-
  The reference of a script of numbers, plain: the number with a rank; a list without one of its least numbers; its steps, which return what the ascending list's steps return. No program stands here. No conditions but those that each theorem names.
-/
import Derived.Test.YtjojlnmcifkenaaPlainI
namespace Go.Proofs.Ytjojlnmcifkenaa.Hp

theorem countP_ge (P : Int → Bool) (m : List Int) (p : Nat) (hp : p < m.length) (h : ∀ j, j ≤ p → P (g m j) = true) : p + 1 ≤ m.countP P := by
  have e : m.countP P = (m.take (p + 1)).countP P + (m.drop (p + 1)).countP P := by rw [← List.countP_append, List.take_append_drop]
  have e2 : (m.take (p + 1)).countP P = p + 1 := by
    have h3 : (m.take (p + 1)).countP P = (m.take (p + 1)).length := by
      rw [List.countP_eq_length]
      intro a ha
      obtain ⟨i, hi, e⟩ := List.mem_iff_getElem.1 ha
      rw [List.length_take] at hi
      rw [List.getElem_take] at e
      rw [← e, g_eq (by omega)]
      exact h i (by omega)
    rw [h3, List.length_take]
    omega
  omega
theorem countP_le (P : Int → Bool) (m : List Int) (p : Nat) (h : ∀ j, p ≤ j → j < m.length → P (g m j) = false) : m.countP P ≤ p := by
  have e : m.countP P = (m.take p).countP P + (m.drop p).countP P := by rw [← List.countP_append, List.take_append_drop]
  have e2 : (m.drop p).countP P = 0 := by
    rw [List.countP_eq_zero]
    intro a ha
    obtain ⟨i, hi, e⟩ := List.mem_iff_getElem.1 ha
    rw [List.length_drop] at hi
    rw [List.getElem_drop] at e
    rw [← e, g_eq (by omega), h (p + i) (by omega) (by omega)]
    simp
  have e3 : (m.take p).countP P ≤ (m.take p).length := List.countP_le_length
  rw [List.length_take] at e3
  omega
def lessN (x : List Int) (v : Int) : Nat := x.countP (fun y => decide (y < v))
def mostN (x : List Int) (v : Int) : Nat := x.countP (fun y => decide (y ≤ v))
theorem sorted_g {m : List Int} (hs : m.Pairwise (· ≤ ·)) {i j : Nat} (hij : i ≤ j) (hj : j < m.length) : g m i ≤ g m j := by
  rcases Nat.lt_or_eq_of_le hij with h | h
  · have := List.pairwise_iff_getElem.1 hs i j (by omega) hj h
    rw [g_eq (by omega), g_eq hj] at this
    exact this
  · rw [h]; exact Int.le_refl _
/-- A number has a rank if so many are less, and more are at most it. -/
theorem rank_iff (x : List Int) (v : Int) (p : Nat) (hp : p < x.length) : (lessN x v ≤ p ∧ p < mostN x v) ↔ g (srt x) p = v := by
  have e1 : lessN x v = (srt x).countP (fun y => decide (y < v)) := ((perm_srt x).countP_eq _).symm
  have e2 : mostN x v = (srt x).countP (fun y => decide (y ≤ v)) := ((perm_srt x).countP_eq _).symm
  have hs := sorted_srt x
  have hl := length_srt x
  rw [e1, e2]
  constructor
  · rintro ⟨h1, h2⟩
    rcases Int.lt_trichotomy (g (srt x) p) v with h | h | h
    · have := countP_ge (fun y => decide (y < v)) (srt x) p (by omega) (fun j hj => decide_eq_true (by have := sorted_g hs hj (by omega); omega))
      omega
    · exact h
    · have := countP_le (fun y => decide (y ≤ v)) (srt x) p (fun j hj hjl => decide_eq_false (by have := sorted_g hs hj hjl; omega))
      omega
  · intro h
    refine ⟨countP_le _ _ _ (fun j hj hjl => decide_eq_false (by have := sorted_g hs hj hjl; omega)), ?_⟩
    exact countP_ge (fun y => decide (y ≤ v)) (srt x) p (by omega) (fun j hj => decide_eq_true (by have := sorted_g hs hj (by omega); omega))
theorem lessN_succ (x : List Int) (k : Nat) (hk : k < x.length) (v : Int) : lessN (x.take (k + 1)) v = lessN (x.take k) v + (if g x k < v then 1 else 0) := by
  unfold lessN
  rw [List.take_succ_eq_append_getElem hk, List.countP_append, g_eq hk]
  congr 1
  by_cases h : g x k < v <;> simp [h]
theorem mostN_succ (x : List Int) (k : Nat) (hk : k < x.length) (v : Int) : mostN (x.take (k + 1)) v = mostN (x.take k) v + (if g x k ≤ v then 1 else 0) := by
  unfold mostN
  rw [List.take_succ_eq_append_getElem hk, List.countP_append, g_eq hk]
  congr 1
  by_cases h : g x k ≤ v <;> simp [h]

/-- One step of the reference on a list of numbers. -/
def stpH (s : St) (h : List Int) : List Int × List Int :=
  if s.1 = 1 then (h ++ [s.2.2.1], [])
  else if h.length = 0 ∨ (s.1 ≠ 2 ∧ s.1 ≠ 3 ∧ s.1 ≠ 4) then (h, [])
  else if s.1 = 4 then (h.erase (g (srt h) 0) ++ [s.2.2.1], [g (srt h) 0])
  else (h.erase (g (srt h) 0), [g (srt h) 0])
def aftH : List Int → List St → List Int
  | h, [] => h
  | h, s :: ss => aftH (stpH s h).1 ss
def outH : List Int → List St → List Int
  | _, [] => []
  | h, s :: ss => (stpH s h).2 ++ outH (stpH s h).1 ss
theorem aftH_append (a b : List St) (h : List Int) : aftH h (a ++ b) = aftH (aftH h a) b := by
  induction a generalizing h with
  | nil => rfl
  | cons s a ih => exact ih _
theorem outH_append (a b : List St) (h : List Int) : outH h (a ++ b) = outH h a ++ outH (aftH h a) b := by
  induction a generalizing h with
  | nil => rfl
  | cons s a ih => rw [List.cons_append, outH, ih, outH, List.append_assoc]; rfl
theorem aftH_succ (ss : List St) (h : List Int) (k : Nat) (hk : k < ss.length) : aftH h (ss.take (k + 1)) = (stpH (g ss k) (aftH h (ss.take k))).1 := by
  rw [take_succ_st ss k hk, aftH_append]; rfl
theorem outH_succ (ss : List St) (h : List Int) (k : Nat) (hk : k < ss.length) : outH h (ss.take (k + 1)) = outH h (ss.take k) ++ (stpH (g ss k) (aftH h (ss.take k))).2 := by
  rw [take_succ_st ss k hk, outH_append]; simp [outH]
theorem stpH_len (s : St) (h : List Int) : (stpH s h).1.length ≤ h.length + 1 ∧ (stpH s h).2.length ≤ 1 := by
  have he : (h.erase (g (srt h) 0)).length ≤ h.length := List.length_erase_le
  unfold stpH
  split
  · simp
  · split
    · simp
    · split
      · simp; omega
      · simp; omega
theorem stpH_A (s : St) (h : List Int) : srt (stpH s h).1 = (stpA s (srt h)).1 ∧ (stpH s h).2 = (stpA s (srt h)).2 := by
  have hsi : ∀ (v : Int) (l : List Int), srt (l ++ [v]) = ins v (srt l) := fun v l =>
    sorted_unique _ _ (sorted_srt _) (sorted_ins _ _ (sorted_srt l)) ((perm_srt _).trans (List.perm_append_comm.trans (((perm_srt l).cons v).symm.trans (perm_ins v (srt l)).symm)))
  unfold stpH stpA
  by_cases k1 : s.1 = 1
  · rw [if_pos k1, if_pos k1]
    exact ⟨hsi _ _, rfl⟩
  rw [if_neg k1, if_neg k1]
  cases hm : srt h with
  | nil =>
    have h0 : h.length = 0 := by rw [← length_srt, hm]; rfl
    rw [if_pos (.inl h0)]
    exact ⟨hm, rfl⟩
  | cons a m =>
    have h0 : ¬ h.length = 0 := by rw [← length_srt, hm]; simp
    have hg : g (a :: m) 0 = a := rfl
    have hse : srt (h.erase a) = m := by
      have hp : (h.erase a).Perm m := by
        have h1 := (perm_srt h).erase a
        rw [hm, List.erase_cons_head] at h1
        exact h1.symm
      have hsm : m.Pairwise (· ≤ ·) := by have := sorted_srt h; rw [hm] at this; exact (List.pairwise_cons.1 this).2
      exact sorted_unique _ _ (sorted_srt _) hsm ((perm_srt _).trans hp)
    by_cases k2 : s.1 ≠ 2 ∧ s.1 ≠ 3 ∧ s.1 ≠ 4
    · rw [if_pos (.inr k2)]
      simp only
      rw [if_neg (by omega), if_neg (by omega)]
      exact ⟨hm, rfl⟩
    · rw [if_neg (by omega)]
      simp only
      by_cases k4 : s.1 = 4
      · rw [if_pos k4, if_neg (by omega), if_pos k4, hg]
        exact ⟨by simp only; rw [hsi, hse], rfl⟩
      · rw [if_neg k4, if_pos (by omega), hg]
        exact ⟨hse, rfl⟩
theorem script_H (ss : List St) (h : List Int) : outH h ss = outA (srt h) ss ∧ srt (aftH h ss) = aftA (srt h) ss := by
  induction ss generalizing h with
  | nil => exact ⟨rfl, rfl⟩
  | cons s ss ih =>
    obtain ⟨h1, h2⟩ := stpH_A s h
    obtain ⟨h3, h4⟩ := ih (stpH s h).1
    rw [h1] at h3 h4
    exact ⟨by rw [outH, outA, h2, h3], h4⟩
end Go.Proofs.Ytjojlnmcifkenaa.Hp
