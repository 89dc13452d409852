/-
  Plain lists, third part: the least and the greatest element after Fix. No program stands here. No conditions but those that each theorem names.
-/
import Derived.Test.YtadacjndepkfeaaPlainB
namespace Go.Proofs.Ytadacjndepkfeaa.Hp
section
variable {α : Type} [Inhabited α]

theorem two_le_countP (p : α → Bool) (l : List α) (i j : Nat) (hij : i < j) (hj : j < l.length) (hi1 : p (g l i) = true) (hj1 : p (g l j) = true) : 2 ≤ l.countP p := by
  rw [← List.take_append_drop j l, List.countP_append]
  have h1 : 0 < (l.take j).countP p := by
    rw [List.countP_pos_iff]
    refine ⟨g l i, ?_, hi1⟩
    rw [← g_eq (by omega)]
    exact List.mem_take_iff_getElem.2 ⟨i, by omega, rfl⟩
  have h2 : 0 < (l.drop j).countP p := by
    rw [List.countP_pos_iff]
    refine ⟨g l j, ?_, hj1⟩
    rw [← g_eq hj, List.drop_eq_getElem_cons hj]
    exact List.mem_cons_self
  omega

theorem countP_set_one (p : α → Bool) (l : List α) (i : Nat) (x : α) (hi : i < l.length) (hx : p x = true) (ho : ∀ k, k < l.length → k ≠ i → p (g l k) = false) : (l.set i x).countP p = 1 := by
  rw [List.set_eq_take_append_cons_drop, if_pos hi, List.countP_append, List.countP_cons, if_pos hx]
  have h1 : (l.take i).countP p = 0 := by
    rw [List.countP_eq_zero]
    intro a ha
    obtain ⟨k, hk, rfl⟩ := List.mem_take_iff_getElem.1 ha
    have := ho k (by omega) (by omega)
    rw [← g_eq (by omega)] at this
    simp [this]
  have h2 : (l.drop (i + 1)).countP p = 0 := by
    rw [List.countP_eq_zero]
    intro a ha
    obtain ⟨k, hk, rfl⟩ := List.mem_drop_iff_getElem.1 ha
    have := ho (i + 1 + k) (by omega) (by omega)
    rw [← g_eq (by omega)] at this
    simp [this]
  omega

theorem mem_g {l : List α} {i : Nat} (h : i < l.length) : g l i ∈ l := by
  rw [← g_eq h]; exact List.getElem_mem h
theorem g_of_mem {l : List α} {x : α} (h : x ∈ l) : ∃ i, i < l.length ∧ g l i = x := by
  obtain ⟨i, hi, e⟩ := List.getElem_of_mem h
  exact ⟨i, hi, by rw [← g_eq hi]; exact e⟩
theorem set_mem_cases {l : List α} {i : Nat} (hi : i < l.length) {x y : α} (h : y ∈ l.set i x) : y = x ∨ ∃ k, k < l.length ∧ k ≠ i ∧ g l k = y := by
  obtain ⟨k, hk, e⟩ := g_of_mem h
  rw [g_set _ _ hi] at e
  rw [List.length_set] at hk
  by_cases hki : k = i
  · rw [if_pos hki] at e; exact .inl e.symm
  · rw [if_neg hki] at e; exact .inr ⟨k, hk, hki, e⟩
theorem mem_set_self {l : List α} {i : Nat} (hi : i < l.length) (x : α) : x ∈ l.set i x := by
  have h := mem_g (l := l.set i x) (i := i) (by simpa using hi)
  rwa [g_set _ _ hi, if_pos rfl] at h

/-- An element that becomes less than all others is the first one after Fix. -/
theorem fix_least {lt : α → α → Bool} (hw : Wo lt) (l : List α) (i : Nat) (x : α) (hi : i < l.length) (h : HO lt l l.length) (ho : ∀ k, k < l.length → k ≠ i → lt x (g l k) = true) : g (fix lt (l.set i x) i) 0 = x := by
  have hH := fix_HO hw l i hi h x
  have hp := perm_fix lt (l.set i x) i (by simpa using hi)
  have hm : g (fix lt (l.set i x) i) 0 ∈ l.set i x := hp.mem_iff.1 (mem_g (by simp; omega))
  rcases set_mem_cases hi hm with h1 | ⟨k, hk, hki, h1⟩
  · exact h1
  · obtain ⟨j, hj, e⟩ := g_of_mem (hp.mem_iff.2 (mem_set_self hi x))
    rw [length_fix, List.length_set] at hj
    have h2 := hH.least hw j hj
    rw [e, ← h1, ho k hk hki] at h2
    cases h2

/-- An element that becomes greater than all others has none below it after Fix. -/
theorem fix_greatest {lt : α → α → Bool} (hw : Wo lt) (l : List α) (i : Nat) (x : α) (hi : i < l.length) (h : HO lt l l.length) (ho : ∀ k, k < l.length → k ≠ i → lt (g l k) x = true) (k : Nat)
    (hkx : lt (g (fix lt (l.set i x) i) k) x = false) : l.length ≤ 2 * k + 1 := by
  have hH := fix_HO hw l i hi h x
  have hp := perm_fix lt (l.set i x) i (by simpa using hi)
  rcases Nat.lt_or_ge (2 * k + 1) l.length with hlt | hge
  · exfalso
    have h1 := hH (2 * k + 1) (by omega) hlt
    rw [show (2 * k + 1 - 1) / 2 = k by omega] at h1
    have h2 := two_le_countP (fun y => !lt y x) (fix lt (l.set i x) i) k (2 * k + 1) (by omega) (by simpa using hlt) (by simp [hkx]) (by simp [hw.trans _ _ _ hkx h1])
    have h3 := countP_set_one (fun y => !lt y x) l i x hi (by simp [irr hw x]) (fun m hm hmi => by simp [ho m hm hmi])
    rw [hp.countP_eq, h3] at h2
    omega
  · exact hge
end
end Go.Proofs.Ytadacjndepkfeaa.Hp
