/-
  The steps of a queue, plain: on a list of pairs by their numbers, and on a heap of pairs; both return the same. No program stands here. No conditions but those that each theorem names.
-/
import Derived.Test.YtpjdpcpcfcohiaaPlainQ
namespace Go.Proofs.Ytpjdpcpcfcohiaa.Hp

abbrev nums (t : List (Int × Int)) : List Int := t.map Prod.snd
/-- The first pair with the least key. -/
def fstK (b : Int × Int) (t : List (Int × Int)) : Int × Int := t.foldl (fun b x => if x.1 < b.1 then x else b) b
def fstW (t : List (Int × Int)) : Int × Int := fstK (g t 0) t
def dropW (n : Int) (t : List (Int × Int)) : List (Int × Int) := t.filter (fun y => y.2 != n)
def fndK (b : Int × Int) (n : Int) (t : List (Int × Int)) : Int × Int := t.foldl (fun b x => if x.2 = n then x else b) b
def fndW (n : Int) (t : List (Int × Int)) : Int × Int := fndK (0, 0) n t
def setW (n k : Int) (t : List (Int × Int)) : List (Int × Int) := t.map (fun x => if x.2 = n then (k, x.2) else x)

/-- One step on a list of pairs. -/
def stpW (s : St) (q : Nat × List (Int × Int)) : (Nat × List (Int × Int)) × List (Int × Int) :=
  if s.1 = 1 then ((q.1 + 1, q.2 ++ [(s.2.2.1, (q.1 : Int))]), [])
  else if s.1 = 2 then (if q.2.length = 0 then (q, []) else ((q.1, dropW (fstW q.2).2 q.2), [fndW (fstW q.2).2 q.2]))
  else if s.1 = 3 then ((q.1, dropW s.2.1 q.2), if s.2.1 ∈ nums q.2 then [fndW s.2.1 q.2] else [])
  else if s.1 = 4 then ((q.1, setW s.2.1 s.2.2.1 q.2), [])
  else (q, [])
/-- One step on a heap of pairs. -/
def stpD (s : St) (q : Nat × List (Int × Int)) : (Nat × List (Int × Int)) × List (Int × Int) :=
  if s.1 = 1 then ((q.1 + 1, push ltQ q.2 (s.2.2.1, (q.1 : Int))), [])
  else if s.1 = 2 ∧ 0 < q.2.length then ((q.1, (popD ltQ q.2).dropLast), [g q.2 0])
  else if s.1 = 3 ∧ s.2.1 ∈ nums q.2 then ((q.1, (rem ltQ q.2 ((nums q.2).idxOf s.2.1)).dropLast), [g q.2 ((nums q.2).idxOf s.2.1)])
  else if s.1 = 4 ∧ s.2.1 ∈ nums q.2 then ((q.1, fix ltQ (q.2.set ((nums q.2).idxOf s.2.1) (s.2.2.1, s.2.1)) ((nums q.2).idxOf s.2.1)), [])
  else if s.1 = 5 then ((q.1, init ltQ q.2), [])
  else (q, [])
def aftW : Nat × List (Int × Int) → List St → Nat × List (Int × Int)
  | q, [] => q
  | q, s :: ss => aftW (stpW s q).1 ss
def outW : Nat × List (Int × Int) → List St → List (Int × Int)
  | _, [] => []
  | q, s :: ss => (stpW s q).2 ++ outW (stpW s q).1 ss
def aftD : Nat × List (Int × Int) → List St → Nat × List (Int × Int)
  | q, [] => q
  | q, s :: ss => aftD (stpD s q).1 ss
def outD : Nat × List (Int × Int) → List St → List (Int × Int)
  | _, [] => []
  | q, s :: ss => (stpD s q).2 ++ outD (stpD s q).1 ss
theorem aftW_append (a b : List St) (q : Nat × List (Int × Int)) : aftW q (a ++ b) = aftW (aftW q a) b := by
  induction a generalizing q with
  | nil => rfl
  | cons s a ih => exact ih _
theorem outW_append (a b : List St) (q : Nat × List (Int × Int)) : outW q (a ++ b) = outW q a ++ outW (aftW q a) b := by
  induction a generalizing q with
  | nil => rfl
  | cons s a ih => rw [List.cons_append, outW, ih, outW, List.append_assoc]; rfl
theorem aftD_append (a b : List St) (q : Nat × List (Int × Int)) : aftD q (a ++ b) = aftD (aftD q a) b := by
  induction a generalizing q with
  | nil => rfl
  | cons s a ih => exact ih _
theorem outD_append (a b : List St) (q : Nat × List (Int × Int)) : outD q (a ++ b) = outD q a ++ outD (aftD q a) b := by
  induction a generalizing q with
  | nil => rfl
  | cons s a ih => rw [List.cons_append, outD, ih, outD, List.append_assoc]; rfl
theorem aftW_succ (ss : List St) (q : Nat × List (Int × Int)) (k : Nat) (h : k < ss.length) : aftW q (ss.take (k + 1)) = (stpW (g ss k) (aftW q (ss.take k))).1 := by
  rw [take_succ_st ss k h, aftW_append]; rfl
theorem outW_succ (ss : List St) (q : Nat × List (Int × Int)) (k : Nat) (h : k < ss.length) : outW q (ss.take (k + 1)) = outW q (ss.take k) ++ (stpW (g ss k) (aftW q (ss.take k))).2 := by
  rw [take_succ_st ss k h, outW_append]; simp [outW]
theorem aftD_succ (ss : List St) (q : Nat × List (Int × Int)) (k : Nat) (h : k < ss.length) : aftD q (ss.take (k + 1)) = (stpD (g ss k) (aftD q (ss.take k))).1 := by
  rw [take_succ_st ss k h, aftD_append]; rfl
theorem outD_succ (ss : List St) (q : Nat × List (Int × Int)) (k : Nat) (h : k < ss.length) : outD q (ss.take (k + 1)) = outD q (ss.take k) ++ (stpD (g ss k) (aftD q (ss.take k))).2 := by
  rw [take_succ_st ss k h, outD_append]; simp [outD]

/-- The pairs of a queue: numbers ascend, and each is below the number of all that were pushed. -/
structure InvW (q : Nat × List (Int × Int)) : Prop where
  asc : (nums q.2).Pairwise (· < ·)
  low : ∀ n ∈ nums q.2, 0 ≤ n ∧ n < q.1
theorem InvW.nodup {q : Nat × List (Int × Int)} (h : InvW q) : (nums q.2).Nodup := h.asc.imp (fun h => by omega)

theorem fndK_none (b : Int × Int) (n : Int) (t : List (Int × Int)) (h : n ∉ nums t) : fndK b n t = b := by
  induction t generalizing b with
  | nil => rfl
  | cons x t ih =>
    simp only [nums, List.map_cons, List.mem_cons, not_or] at h
    rw [fndK, List.foldl_cons, if_neg (fun e => h.1 e.symm)]
    exact ih b h.2
theorem fndK_some (b a : Int × Int) (t : List (Int × Int)) (hn : (nums t).Nodup) (ha : a ∈ t) : fndK b a.2 t = a := by
  induction t generalizing b with
  | nil => cases ha
  | cons x t ih =>
    simp only [nums, List.map_cons, List.nodup_cons] at hn
    rw [fndK, List.foldl_cons]
    rcases List.mem_cons.1 ha with e | e
    · subst e
      rw [if_pos rfl]
      exact fndK_none _ _ _ hn.1
    · exact ih _ hn.2 e
theorem fndW_some {a : Int × Int} {t : List (Int × Int)} (hn : (nums t).Nodup) (ha : a ∈ t) : fndW a.2 t = a := fndK_some _ a t hn ha
theorem dropW_none {n : Int} {t : List (Int × Int)} (h : n ∉ nums t) : dropW n t = t := by
  unfold dropW
  rw [List.filter_eq_self]
  intro a ha
  have : a.2 ≠ n := fun e => h (e ▸ List.mem_map_of_mem ha)
  simpa using this
theorem dropW_erase {a : Int × Int} {t : List (Int × Int)} (hn : (nums t).Nodup) (ha : a ∈ t) : dropW a.2 t = t.erase a := by
  induction t with
  | nil => cases ha
  | cons x t ih =>
    simp only [nums, List.map_cons, List.nodup_cons] at hn
    rcases List.mem_cons.1 ha with e | e
    · subst e
      rw [List.erase_cons_head]
      have h1 : dropW a.2 t = t := dropW_none hn.1
      unfold dropW at h1 ⊢
      rw [List.filter_cons_of_neg (by simp), h1]
    · have hne : x.2 ≠ a.2 := fun h => hn.1 (h ▸ List.mem_map_of_mem e)
      rw [List.erase_cons_tail (by simp; intro h; exact hne (by rw [h]))]
      have h1 := ih hn.2 e
      unfold dropW at h1 ⊢
      rw [List.filter_cons_of_pos (by simpa using hne), h1]
theorem setW_none {n k : Int} {t : List (Int × Int)} (h : n ∉ nums t) : setW n k t = t := by
  unfold setW
  conv => rhs; rw [← List.map_id t]
  apply List.map_congr_left
  intro a ha
  have hne : ¬ a.2 = n := fun e => h (e ▸ List.mem_map_of_mem ha)
  rw [if_neg hne]
  rfl
theorem setW_perm {a : Int × Int} {k : Int} {t : List (Int × Int)} (hn : (nums t).Nodup) (ha : a ∈ t) : (setW a.2 k t).Perm ((t.erase a) ++ [(k, a.2)]) := by
  induction t with
  | nil => cases ha
  | cons x t ih =>
    simp only [nums, List.map_cons, List.nodup_cons] at hn
    rcases List.mem_cons.1 ha with e | e
    · subst e
      rw [List.erase_cons_head]
      have h1 : setW a.2 k t = t := setW_none hn.1
      unfold setW at h1 ⊢
      rw [List.map_cons, if_pos rfl, h1]
      exact (List.perm_append_comm (l₁ := [(k, a.2)]) (l₂ := t))
    · have hne : x.2 ≠ a.2 := fun h => hn.1 (h ▸ List.mem_map_of_mem e)
      rw [List.erase_cons_tail (by simp; intro h; exact hne (by rw [h]))]
      have h1 := ih hn.2 e
      unfold setW at h1 ⊢
      rw [List.map_cons, if_neg hne, List.cons_append]
      exact List.Perm.cons x h1
theorem nums_setW (n k : Int) (t : List (Int × Int)) : nums (setW n k t) = nums t := by
  unfold nums setW
  rw [List.map_map]
  apply List.map_congr_left
  intro a _
  simp only [Function.comp]
  split <;> rfl
theorem nums_dropW_sub (n : Int) (t : List (Int × Int)) : (nums (dropW n t)).Sublist (nums t) := List.filter_sublist.map _

/-- The first pair with the least key is the least, where numbers ascend. -/
theorem fstK_least (t : List (Int × Int)) (b : Int × Int) (h : (nums t).Pairwise (· < ·)) (hb : ∀ x ∈ t, b.2 ≤ x.2) : (fstK b t = b ∨ fstK b t ∈ t) ∧ leQ (fstK b t) b ∧ ∀ x ∈ t, leQ (fstK b t) x := by
  induction t generalizing b with
  | nil => exact ⟨.inl rfl, leQ_refl _, fun x h => by cases h⟩
  | cons y t ih =>
    simp only [nums, List.map_cons, List.pairwise_cons] at h
    have hy : ∀ x ∈ t, y.2 < x.2 := fun x hx => h.1 _ (List.mem_map_of_mem hx)
    have hby := hb y List.mem_cons_self
    rw [fstK, List.foldl_cons]
    by_cases hc : y.1 < b.1
    · rw [if_pos hc]
      obtain ⟨h1, h2, h3⟩ := ih y h.2 (fun x hx => Int.le_of_lt (hy x hx))
      refine ⟨.inr ?_, leQ_trans h2 (by unfold leQ; omega), ?_⟩
      · rcases h1 with e | e
        · rw [fstK] at e; rw [e]; exact List.mem_cons_self
        · exact List.mem_cons_of_mem _ e
      · intro x hx
        rcases List.mem_cons.1 hx with e | e
        · rw [e]; exact h2
        · exact h3 x e
    · rw [if_neg hc]
      obtain ⟨h1, h2, h3⟩ := ih b h.2 (fun x hx => by have := hy x hx; omega)
      refine ⟨?_, h2, ?_⟩
      · rcases h1 with e | e
        · exact .inl e
        · exact .inr (List.mem_cons_of_mem _ e)
      · intro x hx
        rcases List.mem_cons.1 hx with e | e
        · rw [e]; exact leQ_trans h2 (by unfold leQ; omega)
        · exact h3 x e
theorem fstW_least {t : List (Int × Int)} (h : (nums t).Pairwise (· < ·)) (h0 : 0 < t.length) : fstW t ∈ t ∧ ∀ x ∈ t, leQ (fstW t) x := by
  cases t with
  | nil => simp at h0
  | cons y t =>
    have h' := h
    simp only [nums, List.map_cons, List.pairwise_cons] at h'
    have hg : g (y :: t) 0 = y := rfl
    obtain ⟨h1, h2, h3⟩ := fstK_least (y :: t) y h (fun x hx => by
      rcases List.mem_cons.1 hx with e | e
      · rw [e]; omega
      · exact Int.le_of_lt (h'.1 _ (List.mem_map_of_mem e)))
    unfold fstW
    rw [hg]
    refine ⟨?_, h3⟩
    rcases h1 with e | e
    · rw [e]; exact List.mem_cons_self
    · exact e
theorem heap_least {l t : List (Int × Int)} (hh : HO ltQ l l.length) (hp : l.Perm t) (ha : (nums t).Pairwise (· < ·)) (h0 : 0 < l.length) : g l 0 = fstW t := by
  obtain ⟨h1, h2⟩ := fstW_least ha (by rw [← hp.length_eq]; exact h0)
  obtain ⟨j, hj, e⟩ := g_of_mem (hp.mem_iff.2 h1)
  have h3 := ltQ_false.1 (hh.least wo_ltQ j hj)
  rw [e] at h3
  exact leQ_antisymm h3 (h2 _ (hp.mem_iff.1 (mem_g h0)))

theorem InvW.step {q : Nat × List (Int × Int)} (h : InvW q) (s : St) : InvW (stpW s q).1 := by
  have hsub : ∀ n, InvW (q.1, dropW n q.2) := fun n => ⟨h.asc.sublist (nums_dropW_sub n q.2), fun m hm => h.low m ((nums_dropW_sub n q.2).subset hm)⟩
  unfold stpW
  split
  · refine ⟨?_, ?_⟩
    · simp only [nums, List.map_append, List.map_cons, List.map_nil]
      rw [List.pairwise_append]
      refine ⟨h.asc, List.pairwise_singleton _ _, ?_⟩
      intro a ha b hb
      rw [List.mem_singleton] at hb
      rw [hb]
      exact (h.low a ha).2
    · intro n hn
      simp only [nums, List.map_append, List.map_cons, List.map_nil, List.mem_append, List.mem_singleton] at hn
      rcases hn with e | e
      · have := h.low n e
        simp only
        omega
      · simp only
        omega
  · split
    · split
      · exact h
      · exact hsub _
    · split
      · exact hsub _
      · split
        · exact ⟨by rw [nums_setW]; exact h.asc, by rw [nums_setW]; exact h.low⟩
        · exact h

theorem idxOf_nums {l : List (Int × Int)} {n : Int} (h : n ∈ nums l) : (nums l).idxOf n < l.length ∧ (g l ((nums l).idxOf n)).2 = n := by
  have h1 : (nums l).idxOf n < (nums l).length := List.idxOf_lt_length_of_mem h
  have h2 : (nums l)[(nums l).idxOf n] = n := List.getElem_idxOf h1
  have h3 : (nums l).idxOf n < l.length := by simpa using h1
  refine ⟨h3, ?_⟩
  rw [← g_eq h3]
  rw [List.getElem_map] at h2
  exact h2

/-- A step on the heap and one on the list. -/
theorem stpD_W (s : St) {c : Nat} {l t : List (Int × Int)} (hi : InvW (c, t)) (hh : HO ltQ l l.length) (hp : l.Perm t) :
    (stpD s (c, l)).2 = (stpW s (c, t)).2 ∧ (stpD s (c, l)).1.1 = (stpW s (c, t)).1.1 ∧ (stpD s (c, l)).1.2.Perm (stpW s (c, t)).1.2 ∧ HO ltQ (stpD s (c, l)).1.2 (stpD s (c, l)).1.2.length := by
  have hnd : (nums t).Nodup := hi.nodup
  have hnp : (nums l).Perm (nums t) := hp.map _
  unfold stpD stpW
  by_cases k1 : s.1 = 1
  · rw [if_pos k1, if_pos k1]
    exact ⟨rfl, rfl, (perm_push ltQ l _).trans (hp.append_right _), by simpa using push_HO wo_ltQ l _ hh⟩
  rw [if_neg k1, if_neg k1]
  by_cases k2 : s.1 = 2
  · rw [if_pos k2]
    by_cases h0 : 0 < l.length
    · rw [if_pos ⟨k2, h0⟩, if_neg (by have := hp.length_eq; simp only; omega)]
      have hg := heap_least hh hp hi.asc h0
      have hm := (fstW_least hi.asc (by rw [← hp.length_eq]; exact h0)).1
      refine ⟨by simp only; rw [hg, fndW_some hnd hm], rfl, ?_, ?_⟩
      · simp only
        rw [popD_rem ltQ l h0, dropW_erase hnd hm]
        refine (perm_rem_erase ltQ l 0 h0).trans ?_
        rw [hg]
        exact hp.erase _
      · simp only
        rw [popD_rem ltQ l h0]
        exact rem_HO_drop wo_ltQ l 0 h0 hh
    · rw [if_neg (fun h => h0 h.2), if_neg (by omega), if_neg (by omega), if_neg (by omega), if_pos (by have := hp.length_eq; simp only; omega)]
      exact ⟨rfl, rfl, hp, hh⟩
  rw [if_neg (fun h => k2 h.1), if_neg k2]
  by_cases k3 : s.1 = 3
  · rw [if_pos k3]
    by_cases hm : s.2.1 ∈ nums l
    · rw [if_pos ⟨k3, hm⟩]
      obtain ⟨h1, h2⟩ := idxOf_nums hm
      have hmt : s.2.1 ∈ nums t := hnp.mem_iff.1 hm
      have ha : g l ((nums l).idxOf s.2.1) ∈ t := hp.mem_iff.1 (mem_g h1)
      obtain ⟨p, hpp⟩ : ∃ p, p = (nums l).idxOf s.2.1 := ⟨_, rfl⟩
      simp only
      rw [if_pos hmt]
      rw [← hpp] at h1 h2 ha ⊢
      refine ⟨?_, trivial, ?_, rem_HO_drop wo_ltQ l p h1 hh⟩
      · rw [← h2, fndW_some hnd ha]
      · rw [← h2, dropW_erase hnd ha]
        exact (perm_rem_erase ltQ l p h1).trans (hp.erase _)
    · rw [if_neg (fun h => hm h.2), if_neg (by omega), if_neg (by omega)]
      have hmt : s.2.1 ∉ nums t := fun h => hm (hnp.mem_iff.2 h)
      simp only
      rw [if_neg hmt, dropW_none hmt]
      exact ⟨rfl, trivial, hp, hh⟩
  rw [if_neg (fun h => k3 h.1), if_neg k3]
  by_cases k4 : s.1 = 4
  · rw [if_pos k4]
    by_cases hm : s.2.1 ∈ nums l
    · rw [if_pos ⟨k4, hm⟩]
      obtain ⟨h1, h2⟩ := idxOf_nums hm
      have ha : g l ((nums l).idxOf s.2.1) ∈ t := hp.mem_iff.1 (mem_g h1)
      obtain ⟨p, hpp⟩ : ∃ p, p = (nums l).idxOf s.2.1 := ⟨_, rfl⟩
      simp only
      rw [← hpp] at h1 h2 ha ⊢
      refine ⟨trivial, trivial, ?_, by simpa using fix_HO wo_ltQ l p h1 hh _⟩
      refine (perm_fix ltQ _ p (by simpa using h1)).trans ((perm_set_erase h1 _).trans ?_)
      have h3 := setW_perm (k := s.2.2.1) hnd ha
      rw [h2] at h3
      exact ((hp.erase _).append_right _).trans h3.symm
    · rw [if_neg (fun h => hm h.2), if_neg (by omega)]
      have hmt : s.2.1 ∉ nums t := fun h => hm (hnp.mem_iff.2 h)
      simp only
      rw [setW_none hmt]
      exact ⟨trivial, trivial, hp, hh⟩
  rw [if_neg (fun h => k4 h.1), if_neg k4]
  by_cases k5 : s.1 = 5
  · rw [if_pos k5]
    exact ⟨rfl, rfl, (perm_init ltQ l).trans hp, by simpa using init_HO wo_ltQ l⟩
  · rw [if_neg k5]
    exact ⟨rfl, rfl, hp, hh⟩

theorem script_W (ss : List St) {c : Nat} {l t : List (Int × Int)} (hi : InvW (c, t)) (hh : HO ltQ l l.length) (hp : l.Perm t) :
    outD (c, l) ss = outW (c, t) ss ∧ (aftD (c, l) ss).1 = (aftW (c, t) ss).1 ∧ (aftD (c, l) ss).2.Perm (aftW (c, t) ss).2 ∧ HO ltQ (aftD (c, l) ss).2 (aftD (c, l) ss).2.length ∧ InvW (aftW (c, t) ss) := by
  induction ss generalizing c l t with
  | nil => exact ⟨rfl, rfl, hp, hh, hi⟩
  | cons s ss ih =>
    obtain ⟨h1, h2, h3, h4⟩ := stpD_W s hi hh hp
    have hi2 := hi.step s
    have e1 : (stpW s (c, t)).1 = ((stpD s (c, l)).1.1, (stpW s (c, t)).1.2) := by rw [h2]
    have h5 := ih (c := (stpD s (c, l)).1.1) (l := (stpD s (c, l)).1.2) (t := (stpW s (c, t)).1.2) (by rw [← e1]; exact hi2) h4 h3
    rw [← e1] at h5
    exact ⟨by rw [outD, outW, h1, h5.1], h5.2⟩
theorem queue_W (ss : List St) : outD (0, []) ss = outW (0, []) ss ∧ (aftD (0, []) ss).1 = (aftW (0, []) ss).1 ∧ (aftD (0, []) ss).2.Perm (aftW (0, []) ss).2 ∧ HO ltQ (aftD (0, []) ss).2 (aftD (0, []) ss).2.length ∧ InvW (aftW (0, []) ss) :=
  script_W ss ⟨List.Pairwise.nil, fun n h => by cases h⟩ (fun j h1 h2 => by simp at h2) (List.Perm.refl _)
end Go.Proofs.Ytpjdpcpcfcohiaa.Hp
