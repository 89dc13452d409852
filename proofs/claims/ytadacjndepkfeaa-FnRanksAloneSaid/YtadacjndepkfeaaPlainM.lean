/-
  Plain lists: the library sees elements by Less alone: a map of the elements that keeps Less goes through every function, and through every script. No program stands here. No conditions but those that each theorem names.
-/
import Derived.Test.YtadacjndepkfeaaPlainS
namespace Go.Proofs.Ytadacjndepkfeaa.Hp
section
variable {α : Type} [Inhabited α] {lt : α → α → Bool} {f : α → α} {P : α → Prop}

theorem g_map {l : List α} {i : Nat} (h : i < l.length) : g (l.map f) i = f (g l i) := by
  rw [← g_eq (by simpa using h), ← g_eq h]; simp
theorem swp_map {l : List α} {i j : Nat} (hi : i < l.length) (hj : j < l.length) : swp (l.map f) i j = (swp l i j).map f := by
  apply ext_g (by simp)
  intro k hk
  simp at hk
  have hk' : k < (swp l i j).length := by simpa using hk
  rw [g_swp (by simpa using hi) (by simpa using hj), g_map hk', g_swp hi hj, g_map hi, g_map hj, g_map hk]
  split
  · rfl
  · split <;> rfl
theorem P_g {l : List α} (h : ∀ a ∈ l, P a) {i : Nat} (hi : i < l.length) : P (g l i) := by
  rw [← g_eq hi]; exact h _ (List.getElem_mem hi)
omit [Inhabited α] in
theorem P_perm {l r : List α} (h : ∀ a ∈ l, P a) (hp : r.Perm l) : ∀ a ∈ r, P a := fun a ha => h a (hp.mem_iff.1 ha)

variable (hf : ∀ a b, P a → P b → lt (f a) (f b) = lt a b)
include hf
theorem lt_map {l : List α} (h : ∀ a ∈ l, P a) {i j : Nat} (hi : i < l.length) (hj : j < l.length) : lt (g (l.map f) i) (g (l.map f) j) = lt (g l i) (g l j) := by
  rw [g_map hi, g_map hj]; exact hf _ _ (P_g h hi) (P_g h hj)
theorem child_map {l : List α} (h : ∀ a ∈ l, P a) (i n : Nat) (hn : n ≤ l.length) : child lt (l.map f) i n = child lt l i n := by
  unfold child
  split
  · rw [lt_map hf h (by omega) (by omega)]
  · rfl
theorem downF_map (n : Nat) : ∀ (k : Nat) (l : List α) (i : Nat), (∀ a ∈ l, P a) → n ≤ l.length → downF lt n k (l.map f) i = ((downF lt n k l i).1.map f, (downF lt n k l i).2)
  | 0, _, _, _, _ => rfl
  | k + 1, l, i, h, hn => by
    unfold downF
    by_cases hc : 2 * i + 1 < n
    · rw [if_pos hc, if_pos hc, child_map hf h i n hn]
      obtain ⟨_, h2, h3⟩ := child_cases lt l i n hc
      rw [lt_map hf h (by omega) (by omega)]
      split
      · rw [swp_map (by omega) (by omega)]
        exact downF_map n k _ _ (P_perm h (perm_swp (by omega) (by omega))) (by simpa using hn)
      · rfl
    · rw [if_neg hc, if_neg hc]
theorem upF_map : ∀ (k : Nat) (l : List α) (j : Nat), (∀ a ∈ l, P a) → j < l.length → upF lt k (l.map f) j = (upF lt k l j).map f
  | 0, _, _, _, _ => rfl
  | k + 1, l, j, h, hj => by
    unfold upF
    by_cases h0 : j = 0
    · rw [if_pos h0, if_pos h0]
    · rw [if_neg h0, if_neg h0, lt_map hf h hj (by omega)]
      split
      · rw [swp_map (by omega) hj]
        exact upF_map k _ _ (P_perm h (perm_swp (by omega) hj)) (by simp; omega)
      · rfl
theorem mend_map (l : List α) (i n : Nat) (h : ∀ a ∈ l, P a) (hi : i < l.length) (hn : n ≤ l.length) : mend lt (l.map f) i n = (mend lt l i n).map f := by
  unfold mend down
  rw [downF_map hf n n l i h hn]
  split
  · rfl
  · exact upF_map hf _ _ _ (P_perm h (perm_downF lt n n l i hn)) (by simpa using hi)
theorem fix_map (l : List α) (i : Nat) (h : ∀ a ∈ l, P a) (hi : i < l.length) : fix lt (l.map f) i = (fix lt l i).map f := by
  unfold fix
  rw [List.length_map]
  exact mend_map hf l i _ h hi (Nat.le_refl _)
theorem rem_map (l : List α) (i : Nat) (h : ∀ a ∈ l, P a) (hi : i < l.length) : rem lt (l.map f) i = (rem lt l i).map f := by
  unfold rem
  rw [List.length_map]
  split
  · rfl
  · rw [swp_map hi (by omega)]
    exact mend_map hf _ i _ (P_perm h (perm_swp hi (by omega))) (by simpa using hi) (by simp)
theorem popD_map (l : List α) (h : ∀ a ∈ l, P a) (h0 : 0 < l.length) : popD lt (l.map f) = (popD lt l).map f := by
  rw [popD_rem lt l h0, popD_rem lt _ (by simpa using h0)]
  exact rem_map hf l 0 h h0
theorem initF_map (n : Nat) : ∀ (k : Nat) (l : List α), (∀ a ∈ l, P a) → n ≤ l.length → initF lt n k (l.map f) = (initF lt n k l).map f
  | 0, _, _, _ => rfl
  | k + 1, l, h, hn => by
    unfold initF down
    rw [downF_map hf n n l k h hn]
    exact initF_map n k _ (P_perm h (perm_downF lt n n l k hn)) (by simpa using hn)
theorem init_map (l : List α) (h : ∀ a ∈ l, P a) : init lt (l.map f) = (init lt l).map f := by
  unfold init
  rw [List.length_map]
  exact initF_map hf _ _ l h (Nat.le_refl _)
theorem push_map (l : List α) (x : α) (h : ∀ a ∈ l, P a) (hx : P x) : push lt (l.map f) (f x) = (push lt l x).map f := by
  unfold push up
  rw [List.length_map, show l.map f ++ [f x] = (l ++ [x]).map f by simp]
  refine upF_map hf _ _ _ ?_ (by simp)
  intro a ha
  rcases List.mem_append.1 ha with h1 | h1
  · exact h a h1
  · rw [List.mem_singleton.1 h1]; exact hx

variable (mk mk' : Int → Int → α)
/-- One step of a script, the elements mapped. -/
theorem stp_map (s s' : St) (l : List α) (h : ∀ a ∈ l, P a) (hs : P (mk s.2.2.1 s.2.2.2)) (h1 : s'.1 = s.1) (h2 : s'.2.1 = s.2.1) (h3 : mk' s'.2.2.1 s'.2.2.2 = f (mk s.2.2.1 s.2.2.2)) :
    stp lt mk' s' (l.map f) = ((stp lt mk s l).1.map f, (stp lt mk s l).2.map f) := by
  unfold stp
  rw [h1, h2, h3, List.length_map]
  by_cases k5 : s.1 = 5
  · rw [if_pos k5, if_pos k5, init_map hf l h]; rfl
  rw [if_neg k5, if_neg k5]
  by_cases k1 : s.1 = 1
  · rw [if_pos k1, if_pos k1, push_map hf l _ h hs]; rfl
  rw [if_neg k1, if_neg k1]
  by_cases k0 : l.length = 0
  · rw [if_pos k0, if_pos k0]; rfl
  rw [if_neg k0, if_neg k0]
  have hpos : 0 < l.length := by omega
  have hp := plc_lt s.2.1 hpos
  by_cases k2 : s.1 = 2
  · rw [if_pos k2, if_pos k2, popD_map hf l h hpos, g_map hpos]; simp
  rw [if_neg k2, if_neg k2]
  by_cases k3 : s.1 = 3
  · rw [if_pos k3, if_pos k3, rem_map hf l _ h hp, g_map hp]; simp
  rw [if_neg k3, if_neg k3]
  by_cases k4 : s.1 = 4
  · rw [if_pos k4, if_pos k4]
    have e : (l.map f).set (plc s.2.1 l.length) (f (mk s.2.2.1 s.2.2.2)) = (l.set (plc s.2.1 l.length) (mk s.2.2.1 s.2.2.2)).map f := by rw [List.map_set]
    rw [e, fix_map hf _ _ ?_ (by simpa using hp)]
    · rfl
    · intro a ha
      rcases List.mem_or_eq_of_mem_set ha with h' | h'
      · exact h a h'
      · rw [h']; exact hs
  rw [if_neg k4, if_neg k4]
  rfl
omit hf in
theorem stp_P (s : St) (l : List α) (h : ∀ a ∈ l, P a) (hs : P (mk s.2.2.1 s.2.2.2)) : ∀ a ∈ (stp lt mk s l).1, P a := by
  unfold stp
  split
  · exact P_perm h (perm_init lt l)
  split
  · intro a ha
    have := (perm_push lt l _).mem_iff.1 ha
    rcases List.mem_append.1 this with h1 | h1
    · exact h a h1
    · rw [List.mem_singleton.1 h1]; exact hs
  split
  · exact h
  next k0 =>
  have hpos : 0 < l.length := by omega
  have hp := plc_lt s.2.1 hpos
  split
  · exact fun a ha => P_perm h (perm_popD lt l hpos) a (List.dropLast_subset _ ha)
  split
  · exact fun a ha => P_perm h (perm_rem lt l _ hp) a (List.dropLast_subset _ ha)
  split
  · refine P_perm ?_ (perm_fix lt _ _ (by simpa using hp))
    intro a ha
    rcases List.mem_or_eq_of_mem_set ha with h' | h'
    · exact h a h'
    · rw [h']; exact hs
  · exact h
theorem sts_map (F : St → St) : ∀ (ss : List St) (l : List α), (∀ a ∈ l, P a) → (∀ s ∈ ss, P (mk s.2.2.1 s.2.2.2) ∧ (F s).1 = s.1 ∧ (F s).2.1 = s.2.1 ∧ mk' (F s).2.2.1 (F s).2.2.2 = f (mk s.2.2.1 s.2.2.2)) →
    sts lt mk' (l.map f) (ss.map F) = (sts lt mk l ss).map (List.map f)
  | [], _, _, _ => rfl
  | s :: ss, l, h, hs => by
    obtain ⟨a1, a2, a3, a4⟩ := hs s (by simp)
    rw [List.map_cons, sts, sts, stp_map hf mk mk' s (F s) l h a1 a2 a3 a4, List.map_cons]
    congr 1
    exact sts_map F ss _ (stp_P mk s l h a1) (fun s' hs' => hs s' (List.mem_cons_of_mem _ hs'))
end
end Go.Proofs.Ytadacjndepkfeaa.Hp
