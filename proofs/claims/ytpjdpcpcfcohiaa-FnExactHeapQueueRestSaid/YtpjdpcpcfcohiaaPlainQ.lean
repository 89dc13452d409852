/-
  Queues, plain: pairs of a key and a number in ascending order; what steps make of a heap of them and of a plain list of them, and that both return the same. No program stands here. No conditions but those that each theorem names.
-/
import Derived.Test.YtpjdpcpcfcohiaaPlainS
namespace Go.Proofs.Ytpjdpcpcfcohiaa.Hp

/-- Pairs by their first part and then by their second one. -/
def leQ (a b : Int × Int) : Prop := a.1 < b.1 ∨ a.1 = b.1 ∧ a.2 ≤ b.2
instance (a b : Int × Int) : Decidable (leQ a b) := by unfold leQ; exact inferInstance
def ltQ (a b : Int × Int) : Bool := decide (¬ leQ b a)
theorem ltQ_false {a b : Int × Int} : ltQ a b = false ↔ leQ b a := by simp [ltQ]
theorem ltQ_eq (a b : Int × Int) : ltQ a b = if a.1 = b.1 then decide (a.2 < b.2) else decide (a.1 < b.1) := by
  unfold ltQ leQ
  split
  · rw [Bool.eq_iff_iff]; simp only [decide_eq_true_eq]; omega
  · rw [Bool.eq_iff_iff]; simp only [decide_eq_true_eq]; omega
theorem leQ_refl (a : Int × Int) : leQ a a := by unfold leQ; omega
theorem leQ_trans {a b c : Int × Int} (h : leQ a b) (k : leQ b c) : leQ a c := by unfold leQ at *; omega
theorem leQ_total (a b : Int × Int) : leQ a b ∨ leQ b a := by unfold leQ; omega
theorem leQ_antisymm {a b : Int × Int} (h : leQ a b) (k : leQ b a) : a = b := by
  unfold leQ at *
  exact Prod.ext (by omega) (by omega)
theorem wo_ltQ : Wo ltQ where
  asymm := fun a b h => by
    rw [ltQ_false]
    simp only [ltQ, decide_eq_true_eq] at h
    exact (leQ_total a b).resolve_right h
  trans := fun a b c h1 h2 => by
    rw [ltQ_false] at *
    exact leQ_trans h1 h2

/-- A pair put into an ascending list. -/
def insQ (v : Int × Int) : List (Int × Int) → List (Int × Int)
  | [] => [v]
  | a :: m => if leQ v a then v :: a :: m else a :: insQ v m
theorem perm_insQ (v : Int × Int) (m : List (Int × Int)) : (insQ v m).Perm (v :: m) := by
  induction m with
  | nil => exact List.Perm.refl _
  | cons a m ih =>
    unfold insQ
    split
    · exact List.Perm.refl _
    · exact (List.Perm.cons a ih).trans (List.Perm.swap v a m)
theorem sorted_insQ (v : Int × Int) (m : List (Int × Int)) (h : m.Pairwise leQ) : (insQ v m).Pairwise leQ := by
  induction m with
  | nil => simp [insQ]
  | cons a m ih =>
    obtain ⟨h1, h2⟩ := List.pairwise_cons.1 h
    unfold insQ
    split
    · next hva =>
      refine List.Pairwise.cons ?_ h
      intro b hb
      rcases List.mem_cons.1 hb with e | e
      · rw [e]; exact hva
      · exact leQ_trans hva (h1 b e)
    · next hva =>
      refine List.Pairwise.cons ?_ (ih h2)
      intro b hb
      rcases List.mem_cons.1 ((perm_insQ v m).mem_iff.1 hb) with e | e
      · rw [e]; exact (leQ_total a v).resolve_right hva
      · exact h1 b e
/-- An ascending list with the same pairs. -/
def srtQ (l : List (Int × Int)) : List (Int × Int) := l.foldr insQ []
theorem perm_srtQ (l : List (Int × Int)) : (srtQ l).Perm l := by
  induction l with
  | nil => exact List.Perm.refl _
  | cons a l ih => exact (perm_insQ a (srtQ l)).trans (List.Perm.cons a ih)
theorem sorted_srtQ (l : List (Int × Int)) : (srtQ l).Pairwise leQ := by
  induction l with
  | nil => exact List.Pairwise.nil
  | cons a l ih => exact sorted_insQ a _ ih
theorem length_srtQ (l : List (Int × Int)) : (srtQ l).length = l.length := (perm_srtQ l).length_eq
theorem uniqueQ : ∀ (a b : List (Int × Int)), a.Pairwise leQ → b.Pairwise leQ → a.Perm b → a = b
  | [], b, _, _, h => (List.nil_perm.1 h).symm
  | x :: a, [], _, _, h => absurd h (by simp)
  | x :: a, y :: b, h1, h2, h => by
    have hxy : x = y := by
      rcases List.mem_cons.1 (h.mem_iff.1 (List.mem_cons_self : x ∈ x :: a)) with e | e
      · exact e
      · rcases List.mem_cons.1 (h.mem_iff.2 (List.mem_cons_self : y ∈ y :: b)) with e' | e'
        · exact e'.symm
        · exact leQ_antisymm ((List.pairwise_cons.1 h1).1 y e') ((List.pairwise_cons.1 h2).1 x e)
    subst hxy
    rw [uniqueQ a b (List.pairwise_cons.1 h1).2 (List.pairwise_cons.1 h2).2 h.cons_inv]
theorem srtQ_perm {a b : List (Int × Int)} (h : a.Perm b) : srtQ a = srtQ b := uniqueQ _ _ (sorted_srtQ a) (sorted_srtQ b) ((perm_srtQ a).trans (h.trans (perm_srtQ b).symm))
theorem srtQ_sorted {a : List (Int × Int)} (h : a.Pairwise leQ) : srtQ a = a := uniqueQ _ _ (sorted_srtQ a) h (perm_srtQ a)
theorem pops_srtQ {l : List (Int × Int)} (hh : HO ltQ l l.length) : pops ltQ l.length l = srtQ l := by
  refine uniqueQ _ _ ?_ (sorted_srtQ l) ((perm_pops ltQ _ l rfl).trans (perm_srtQ l).symm)
  exact (sorted_pops wo_ltQ _ l rfl hh).imp (fun {a b} h => ltQ_false.1 h)
end Go.Proofs.Ytpjdpcpcfcohiaa.Hp
