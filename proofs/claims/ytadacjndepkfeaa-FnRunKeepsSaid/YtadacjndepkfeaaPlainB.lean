/-
  Plain lists, second part: what the laws say of the lists that the library's functions make. No program stands here. No conditions but those that each theorem names.
-/
import Derived.Test.YtadacjndepkfeaaPlain
namespace Go.Proofs.Ytadacjndepkfeaa.Hp
section
variable {α : Type} [Inhabited α]

theorem perm_set_erase [BEq α] [LawfulBEq α] {l : List α} {i : Nat} (h : i < l.length) (x : α) : (l.set i x).Perm (l.erase (g l i) ++ [x]) := by
  rw [List.perm_iff_count]
  intro a
  have h1 := count_set h x a
  have hm : g l i ∈ l := by rw [← g_eq h]; exact List.getElem_mem h
  have h2 : (l.erase (g l i)).count a + (if g l i == a then 1 else 0) = l.count a := by
    rw [List.count_erase]
    split
    · next hb =>
      have e : g l i = a := by simpa using hb
      have : 0 < l.count a := List.count_pos_iff.2 (e ▸ hm)
      omega
    · omega
  have h3 : ([x] : List α).count a = if x == a then 1 else 0 := by simp [List.count_singleton]
  rw [List.count_append, h3]
  omega
theorem perm_erase_append {β : Type} [BEq β] [LawfulBEq β] {l : List β} {x : β} (h : x ∈ l) : (l.erase x ++ [x]).Perm l := by
  have h1 := List.perm_cons_erase h
  exact (List.perm_append_comm.trans (by simpa using h1.symm))
theorem set_self {l : List α} {i : Nat} (h : i < l.length) : l.set i (g l i) = l := by
  apply ext_g (by simp)
  intro k _
  rw [g_set _ _ h]
  split
  · next e => rw [e]
  · rfl
theorem dropLast_g {l : List α} (h : 0 < l.length) : l.dropLast ++ [g l (l.length - 1)] = l := by
  apply ext_g
  · simp; omega
  · intro i hi
    simp at hi
    by_cases hl : i + 1 < l.length
    · rw [g_append_left (by simp; omega), g_dropLast hl]
    · have e : i = l.dropLast.length := by simp; omega
      rw [e, g_append_last]
      simp
theorem rem_split (lt : α → α → Bool) (l : List α) (i : Nat) (hi : i < l.length) : (rem lt l i).dropLast ++ [g l i] = rem lt l i := by
  have h := dropLast_g (l := rem lt l i) (by simp; omega)
  rw [length_rem, g_rem lt l i hi] at h
  exact h
theorem perm_rem_erase [BEq α] [LawfulBEq α] (lt : α → α → Bool) (l : List α) (i : Nat) (hi : i < l.length) : (rem lt l i).dropLast.Perm (l.erase (g l i)) := by
  have h1 := perm_rem lt l i hi
  rw [← rem_split lt l i hi] at h1
  have hm : g l i ∈ l := by rw [← g_eq hi]; exact List.getElem_mem hi
  have h2 := (h1.trans (perm_erase_append hm).symm)
  exact (List.perm_append_right_iff [g l i]).1 h2
theorem HO.drop {lt : α → α → Bool} {l : List α} (h : HO lt l (l.length - 1)) : HO lt l.dropLast l.dropLast.length := by
  intro j hj hjl
  simp at hjl
  rw [g_dropLast (by omega), g_dropLast (by omega)]
  exact h j hj hjl
theorem rem_HO_drop {lt : α → α → Bool} (hw : Wo lt) (l : List α) (i : Nat) (hi : i < l.length) (h : HO lt l l.length) : HO lt (rem lt l i).dropLast (rem lt l i).dropLast.length :=
  HO.drop (by rw [length_rem]; exact rem_HO hw l i hi h)
end
end Go.Proofs.Ytadacjndepkfeaa.Hp
