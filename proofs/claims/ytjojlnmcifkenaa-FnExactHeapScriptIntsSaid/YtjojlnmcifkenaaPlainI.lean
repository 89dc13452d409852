/-
  Scripts over a heap of numbers, plain: what the steps make of the list, and that what is returned depends on the elements alone. No program stands here. No conditions but those that each theorem names.
-/
import Derived.Test.YtjojlnmcifkenaaPlainS
namespace Go.Proofs.Ytjojlnmcifkenaa.Hp

/-- Numbers by <. -/
def ltZ (a b : Int) : Bool := decide (a < b)
theorem wo_ltZ : Wo ltZ where
  asymm := fun a b h => by simp [ltZ] at *; omega
  trans := fun a b c h1 h2 => by simp [ltZ] at *; omega

/-- One step of HeapScriptInts: the list behind it, and what it returns. -/
def stpN (s : St) (l : List Int) : List Int × List Int :=
  if s.1 = 5 then (init ltZ l, [])
  else if s.1 = 1 then (push ltZ l s.2.2.1, [])
  else if l.length = 0 then (l, [])
  else if s.1 = 2 then ((popD ltZ l).dropLast, [g l 0])
  else if s.1 = 3 then ((rem ltZ l 0).dropLast, [g l 0])
  else if s.1 = 4 then (fix ltZ (l.set 0 s.2.2.1) 0, [g l 0])
  else (l, [])
def aftN : List Int → List St → List Int
  | l, [] => l
  | l, s :: ss => aftN (stpN s l).1 ss
def outN : List Int → List St → List Int
  | _, [] => []
  | l, s :: ss => (stpN s l).2 ++ outN (stpN s l).1 ss
theorem aftN_append (a b : List St) (l : List Int) : aftN l (a ++ b) = aftN (aftN l a) b := by
  induction a generalizing l with
  | nil => rfl
  | cons s a ih => exact ih _
theorem outN_append (a b : List St) (l : List Int) : outN l (a ++ b) = outN l a ++ outN (aftN l a) b := by
  induction a generalizing l with
  | nil => rfl
  | cons s a ih => rw [List.cons_append, outN, ih, outN, List.append_assoc]; rfl
theorem aftN_succ (ss : List St) (l : List Int) (k : Nat) (h : k < ss.length) : aftN l (ss.take (k + 1)) = (stpN (g ss k) (aftN l (ss.take k))).1 := by
  rw [take_succ_st ss k h, aftN_append]; rfl
theorem outN_succ (ss : List St) (l : List Int) (k : Nat) (h : k < ss.length) : outN l (ss.take (k + 1)) = outN l (ss.take k) ++ (stpN (g ss k) (aftN l (ss.take k))).2 := by
  rw [take_succ_st ss k h, outN_append]; simp [outN]
theorem stpN_length (s : St) (l : List Int) : (stpN s l).1.length ≤ l.length + 1 ∧ (stpN s l).2.length ≤ 1 := by
  unfold stpN
  repeat' split
  all_goals simp
  all_goals omega

/-! ### By the elements alone -/
/-- A number put into an ascending list. -/
def ins (v : Int) : List Int → List Int
  | [] => [v]
  | a :: m => if v ≤ a then v :: a :: m else a :: ins v m
theorem perm_ins (v : Int) (m : List Int) : (ins v m).Perm (v :: m) := by
  induction m with
  | nil => exact List.Perm.refl _
  | cons a m ih =>
    unfold ins
    split
    · exact List.Perm.refl _
    · exact (List.Perm.cons a ih).trans (List.Perm.swap v a m)
theorem sorted_ins (v : Int) (m : List Int) (h : m.Pairwise (· ≤ ·)) : (ins v m).Pairwise (· ≤ ·) := by
  induction m with
  | nil => simp [ins]
  | cons a m ih =>
    obtain ⟨h1, h2⟩ := List.pairwise_cons.1 h
    unfold ins
    split
    · next hva =>
      refine List.Pairwise.cons ?_ h
      intro b hb
      rcases List.mem_cons.1 hb with e | e
      · omega
      · have := h1 b e; omega
    · next hva =>
      refine List.Pairwise.cons ?_ (ih h2)
      intro b hb
      rcases List.mem_cons.1 ((perm_ins v m).mem_iff.1 hb) with e | e
      · omega
      · exact h1 b e
theorem length_ins (v : Int) (m : List Int) : (ins v m).length = m.length + 1 := by rw [(perm_ins v m).length_eq]; rfl
/-- An ascending list with the same elements. -/
def srt (l : List Int) : List Int := l.foldr ins []
theorem perm_srt (l : List Int) : (srt l).Perm l := by
  induction l with
  | nil => exact List.Perm.refl _
  | cons a l ih => exact (perm_ins a (srt l)).trans (List.Perm.cons a ih)
theorem sorted_srt (l : List Int) : (srt l).Pairwise (· ≤ ·) := by
  induction l with
  | nil => exact List.Pairwise.nil
  | cons a l ih => exact sorted_ins a _ ih
theorem length_srt (l : List Int) : (srt l).length = l.length := (perm_srt l).length_eq
theorem srt_perm {a b : List Int} (h : a.Perm b) : srt a = srt b := sorted_unique _ _ (sorted_srt a) (sorted_srt b) ((perm_srt a).trans (h.trans (perm_srt b).symm))
theorem srt_sorted {a : List Int} (h : a.Pairwise (· ≤ ·)) : srt a = a := sorted_unique _ _ (sorted_srt a) h (perm_srt a)

/-- One step on an ascending list. -/
def stpA (s : St) (m : List Int) : List Int × List Int :=
  if s.1 = 1 then (ins s.2.2.1 m, [])
  else match m with
  | [] => ([], [])
  | a :: m' => if s.1 = 2 ∨ s.1 = 3 then (m', [a]) else if s.1 = 4 then (ins s.2.2.1 m', [a]) else (a :: m', [])
def aftA : List Int → List St → List Int
  | m, [] => m
  | m, s :: ss => aftA (stpA s m).1 ss
def outA : List Int → List St → List Int
  | _, [] => []
  | m, s :: ss => (stpA s m).2 ++ outA (stpA s m).1 ss
theorem aftA_append (a b : List St) (l : List Int) : aftA l (a ++ b) = aftA (aftA l a) b := by
  induction a generalizing l with
  | nil => rfl
  | cons s a ih => exact ih _
theorem outA_append (a b : List St) (l : List Int) : outA l (a ++ b) = outA l a ++ outA (aftA l a) b := by
  induction a generalizing l with
  | nil => rfl
  | cons s a ih => rw [List.cons_append, outA, ih, outA, List.append_assoc]; rfl
theorem stpA_sorted (s : St) (m : List Int) (h : m.Pairwise (· ≤ ·)) : (stpA s m).1.Pairwise (· ≤ ·) := by
  unfold stpA
  split
  · exact sorted_ins _ _ h
  · split
    · exact List.Pairwise.nil
    · have h2 := (List.pairwise_cons.1 h).2
      split
      · exact h2
      · split
        · exact sorted_ins _ _ h2
        · exact h
theorem aftA_sorted (ss : List St) (m : List Int) (h : m.Pairwise (· ≤ ·)) : (aftA m ss).Pairwise (· ≤ ·) := by
  induction ss generalizing m with
  | nil => exact h
  | cons s ss ih => exact ih _ (stpA_sorted s m h)

/-- The first element of a heap is the least. -/
theorem head_least {l m : List Int} {a : Int} (hh : HO ltZ l l.length) (hp : l.Perm (a :: m)) (hs : (a :: m).Pairwise (· ≤ ·)) : 0 < l.length ∧ g l 0 = a := by
  have hl : 0 < l.length := by rw [hp.length_eq]; simp
  refine ⟨hl, ?_⟩
  have h1 : g l 0 ∈ a :: m := hp.mem_iff.1 (mem_g hl)
  obtain ⟨j, hj, e⟩ := g_of_mem (hp.mem_iff.2 (List.mem_cons_self : a ∈ a :: m))
  have h2 := hh.least wo_ltZ j hj
  rw [e] at h2
  simp [ltZ] at h2
  rcases List.mem_cons.1 h1 with h3 | h3
  · exact h3
  · have := (List.pairwise_cons.1 hs).1 _ h3
    omega
theorem stpN_A (s : St) {l m : List Int} (hh : HO ltZ l l.length) (hp : l.Perm m) (hs : m.Pairwise (· ≤ ·)) :
    (stpN s l).2 = (stpA s m).2 ∧ (stpN s l).1.Perm (stpA s m).1 ∧ HO ltZ (stpN s l).1 (stpN s l).1.length := by
  unfold stpN stpA
  by_cases k5 : s.1 = 5
  · rw [if_pos k5, if_neg (by omega)]
    have hho : HO ltZ (init ltZ l) (init ltZ l).length := by simpa using init_HO wo_ltZ l
    cases m with
    | nil => exact ⟨rfl, (perm_init ltZ l).trans hp, hho⟩
    | cons a m => simp only [k5]; exact ⟨rfl, (perm_init ltZ l).trans hp, hho⟩
  rw [if_neg k5]
  by_cases k1 : s.1 = 1
  · rw [if_pos k1, if_pos k1]
    refine ⟨rfl, ?_, by simpa using push_HO wo_ltZ l _ hh⟩
    refine (perm_push ltZ l _).trans (List.perm_append_comm.trans ?_)
    exact (List.Perm.cons _ hp).trans (perm_ins _ _).symm
  rw [if_neg k1, if_neg k1]
  cases m with
  | nil =>
    have h0 : l.length = 0 := by rw [hp.length_eq]; rfl
    rw [if_pos h0]
    exact ⟨rfl, hp, hh⟩
  | cons a m =>
    obtain ⟨hl, hg⟩ := head_least hh hp hs
    rw [if_neg (by omega)]
    have hrem : ((rem ltZ l 0).dropLast).Perm m := by
      have h := perm_rem_erase ltZ l 0 hl
      rw [hg] at h
      have h2 : (l.erase a).Perm ((a :: m).erase a) := hp.erase a
      rw [List.erase_cons_head] at h2
      exact h.trans h2
    by_cases k2 : s.1 = 2
    · rw [if_pos k2]
      simp only [k2]
      rw [hg, popD_rem ltZ l hl]
      exact ⟨rfl, hrem, rem_HO_drop wo_ltZ l 0 hl hh⟩
    rw [if_neg k2]
    by_cases k3 : s.1 = 3
    · rw [if_pos k3]
      simp only [k3]
      rw [hg]
      exact ⟨rfl, hrem, rem_HO_drop wo_ltZ l 0 hl hh⟩
    rw [if_neg k3]
    by_cases k4 : s.1 = 4
    · rw [if_pos k4]
      simp only [k4]
      rw [hg]
      refine ⟨rfl, ?_, by simpa using fix_HO wo_ltZ l 0 hl hh s.2.2.1⟩
      have h1 := (perm_fix ltZ (l.set 0 s.2.2.1) 0 (by simpa using hl)).trans (perm_set_erase hl s.2.2.1)
      rw [hg] at h1
      have h2 : (l.erase a).Perm ((a :: m).erase a) := hp.erase a
      rw [List.erase_cons_head] at h2
      refine h1.trans (List.perm_append_comm.trans ?_)
      exact (List.Perm.cons _ h2).trans (perm_ins _ _).symm
    rw [if_neg k4]
    have hn : ¬ (s.1 = 2 ∨ s.1 = 3) := by omega
    simp only [hn, k4, if_false]
    exact ⟨trivial, hp, hh⟩
theorem script_A (ss : List St) {l m : List Int} (hh : HO ltZ l l.length) (hp : l.Perm m) (hs : m.Pairwise (· ≤ ·)) : outN l ss = outA m ss ∧ (aftN l ss).Perm (aftA m ss) ∧ HO ltZ (aftN l ss) (aftN l ss).length := by
  induction ss generalizing l m with
  | nil => exact ⟨rfl, hp, hh⟩
  | cons s ss ih =>
    obtain ⟨h1, h2, h3⟩ := stpN_A s hh hp hs
    obtain ⟨h4, h5, h6⟩ := ih h3 h2 (stpA_sorted s m hs)
    exact ⟨by rw [outN, outA, h1, h4], h5, h6⟩
theorem pops_srt {l : List Int} (hh : HO ltZ l l.length) : pops ltZ l.length l = srt l := by
  refine sorted_unique _ _ ?_ (sorted_srt l) ((perm_pops ltZ _ l rfl).trans (perm_srt l).symm)
  exact (sorted_pops wo_ltZ _ l rfl hh).imp (fun {a b} h => by simp [ltZ] at h; exact h)
/-- What HeapScriptInts returns: by the ascending list alone. -/
theorem script_ints (x : List Int) (ss : List St) : outN (init ltZ x) ss = outA (srt x) ss ∧ pops ltZ (aftN (init ltZ x) ss).length (aftN (init ltZ x) ss) = aftA (srt x) ss := by
  have hh : HO ltZ (init ltZ x) (init ltZ x).length := by simpa using init_HO wo_ltZ x
  obtain ⟨h1, h2, h3⟩ := script_A ss hh ((perm_init ltZ x).trans (perm_srt x).symm) (sorted_srt x)
  refine ⟨h1, ?_⟩
  rw [pops_srt h3, srt_perm h2, srt_sorted (aftA_sorted ss _ (sorted_srt x))]
end Go.Proofs.Ytjojlnmcifkenaa.Hp
