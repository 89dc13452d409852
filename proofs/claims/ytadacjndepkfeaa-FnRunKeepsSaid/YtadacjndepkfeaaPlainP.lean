/-
  Lists: what repeated Pop of a heap gives. No conditions but those that each theorem names.
-/
import Derived.Test.YtadacjndepkfeaaPlainB
import Derived.Test.YtadacjndepkfeaaPlainC
namespace Go.Proofs.Ytadacjndepkfeaa.Hp
variable {α : Type} [Inhabited α]

theorem up_zero (lt : α → α → Bool) (l : List α) : up lt l 0 = l := by simp [up, upF]

theorem popD_rem (lt : α → α → Bool) (l : List α) (h : 0 < l.length) : popD lt l = rem lt l 0 := by
  unfold rem popD
  split
  · next h1 =>
    rw [h1, swp_self h]
    simp [down, downF]
  · unfold mend
    split
    · rfl
    · rw [up_zero]

/-- What k calls of Pop return. -/
def pops (lt : α → α → Bool) : Nat → List α → List α
  | 0, _ => []
  | k + 1, l => g l 0 :: pops lt k (popD lt l).dropLast

theorem length_pops (lt : α → α → Bool) : ∀ (k : Nat) (l : List α), (pops lt k l).length = k
  | 0, _ => rfl
  | k + 1, l => by simp [pops, length_pops lt k]

theorem popD_split (lt : α → α → Bool) (l : List α) (h : 0 < l.length) : (popD lt l).dropLast ++ [g l 0] = popD lt l := by
  rw [popD_rem lt l h]; exact rem_split lt l 0 h

theorem length_popD_drop (lt : α → α → Bool) (l : List α) (h : 0 < l.length) : (popD lt l).dropLast.length = l.length - 1 := by
  rw [List.length_dropLast, (perm_popD lt l h).length_eq]

theorem popD_HO_drop {lt : α → α → Bool} (hw : Wo lt) (l : List α) (hl : 0 < l.length) (h : HO lt l l.length) : HO lt (popD lt l).dropLast (popD lt l).dropLast.length := by
  rw [popD_rem lt l hl]; exact rem_HO_drop hw l 0 hl h

theorem perm_pops (lt : α → α → Bool) : ∀ (k : Nat) (l : List α), l.length = k → (pops lt k l).Perm l
  | 0, l, h => by rw [List.length_eq_zero_iff.1 h]; exact List.Perm.refl _
  | k + 1, l, h => by
    have h0 : 0 < l.length := by omega
    have h1 := perm_pops lt k (popD lt l).dropLast (by rw [length_popD_drop lt l h0]; omega)
    refine ((List.Perm.cons _ h1).trans ?_).trans (perm_popD lt l h0)
    conv => rhs; rw [← popD_split lt l h0]
    exact (List.perm_append_singleton _ _).symm

theorem sorted_pops {lt : α → α → Bool} (hw : Wo lt) : ∀ (k : Nat) (l : List α), l.length = k → HO lt l l.length → (pops lt k l).Pairwise (fun a b => lt b a = false)
  | 0, _, _, _ => List.Pairwise.nil
  | k + 1, l, h, ho => by
    have h0 : 0 < l.length := by omega
    have hk : (popD lt l).dropLast.length = k := by rw [length_popD_drop lt l h0]; omega
    refine List.Pairwise.cons ?_ (sorted_pops hw k _ hk (popD_HO_drop hw l h0 ho))
    intro b hb
    have h1 : b ∈ popD lt l := List.dropLast_subset _ ((perm_pops lt k _ hk).mem_iff.1 hb)
    obtain ⟨j, hj, e⟩ := g_of_mem ((perm_popD lt l h0).mem_iff.1 h1)
    rw [← e]
    exact ho.least hw j hj

/-- Two ascending lists of numbers with the same elements are one. -/
theorem sorted_unique : ∀ (a b : List Int), a.Pairwise (· ≤ ·) → b.Pairwise (· ≤ ·) → a.Perm b → a = b
  | [], b, _, _, h => (List.nil_perm.1 h).symm
  | x :: a, [], _, _, h => absurd h (by simp)
  | x :: a, y :: b, h1, h2, h => by
    have hxy : x = y := by
      rcases List.mem_cons.1 (h.mem_iff.1 (List.mem_cons_self : x ∈ x :: a)) with e | e
      · exact e
      · rcases List.mem_cons.1 (h.mem_iff.2 (List.mem_cons_self : y ∈ y :: b)) with e' | e'
        · exact e'.symm
        · have := (List.pairwise_cons.1 h1).1 y e'
          have := (List.pairwise_cons.1 h2).1 x e
          omega
    subst hxy
    rw [sorted_unique a b (List.pairwise_cons.1 h1).2 (List.pairwise_cons.1 h2).2 h.cons_inv]
end Go.Proofs.Ytadacjndepkfeaa.Hp
