/-
  Plain lists, second part: what the laws say of the lists that the library's functions make. No program stands here. No conditions but those that each theorem names.
-/
import Derived.Test.YtndhpmdkbcbhpaaPlain
namespace Go.Proofs.Ytndhpmdkbcbhpaa.Hp
section
variable {α : Type} [Inhabited α]

theorem perm_set_erase [BEq α] [LawfulBEq α] {l : List α} {i : Nat} (h : i < l.length) (x : α) : (l.set i x).Perm (l.erase (g l i) ++ [x]) := by
  rw [List.perm_iff_count]
  intro a
  have h1 := count_set h x a
  have hm : g l i ∈ l := by rw [← g_eq h]; exact List.getElem_mem h
  have h2 : (l.erase (g l i)).count a + (if g l i == a then 1 else 0) = l.count a := by
    rw [List.count_erase]
    split
    · next hb =>
      have e : g l i = a := by simpa using hb
      have : 0 < l.count a := List.count_pos_iff.2 (e ▸ hm)
      omega
    · omega
  have h3 : ([x] : List α).count a = if x == a then 1 else 0 := by simp [List.count_singleton]
  rw [List.count_append, h3]
  omega
theorem perm_erase_append {β : Type} [BEq β] [LawfulBEq β] {l : List β} {x : β} (h : x ∈ l) : (l.erase x ++ [x]).Perm l := by
  have h1 := List.perm_cons_erase h
  exact (List.perm_append_comm.trans (by simpa using h1.symm))
theorem set_self {l : List α} {i : Nat} (h : i < l.length) : l.set i (g l i) = l := by
  apply ext_g (by simp)
  intro k _
  rw [g_set _ _ h]
  split
  · next e => rw [e]
  · rfl
end
end Go.Proofs.Ytndhpmdkbcbhpaa.Hp
