/-
  The steps of a queue, plain: what the laws say of them. No program stands here. No conditions but those that each theorem names.
-/
import Derived.Test.YtpjdpcpcfcohiaaPlainX
import Derived.Test.YtpjdpcpcfcohiaaPlainP
namespace Go.Proofs.Ytpjdpcpcfcohiaa.Hp

theorem dropW_least {t : List (Int × Int)} (h : (nums t).Pairwise (· < ·)) (h0 : 0 < t.length) : srtQ t = fstW t :: srtQ (dropW (fstW t).2 t) := by
  obtain ⟨h1, h2⟩ := fstW_least h h0
  have hnd : (nums t).Nodup := h.imp (fun h => by omega)
  have he := dropW_erase hnd h1
  refine uniqueQ _ _ (sorted_srtQ t) ?_ ?_
  · refine List.Pairwise.cons ?_ (sorted_srtQ _)
    intro x hx
    have hx2 := (perm_srtQ _).mem_iff.1 hx
    rw [he] at hx2
    exact h2 x (List.mem_of_mem_erase hx2)
  · refine (perm_srtQ t).trans ?_
    refine (List.perm_cons_erase h1).trans (List.Perm.cons _ ?_)
    rw [← he]
    exact (perm_srtQ _).symm
theorem length_dropW {t : List (Int × Int)} (h : (nums t).Pairwise (· < ·)) (h0 : 0 < t.length) : (dropW (fstW t).2 t).length + 1 = t.length := by
  have := congrArg List.length (dropW_least h h0)
  simp only [List.length_cons, length_srtQ] at this
  omega

/-- How many steps push. -/
def pushed (ss : List St) : Nat := ss.countP (fun s => s.1 == 1)
theorem pushed_append (a b : List St) : pushed (a ++ b) = pushed a + pushed b := List.countP_append
theorem pushed_le (ss : List St) : pushed ss ≤ ss.length := List.countP_le_length
theorem stpW_nums (s : St) {q : Nat × List (Int × Int)} (h : InvW q) : (stpW s q).1.1 = q.1 + pushed [s] ∧ (nums ((stpW s q).2 ++ (stpW s q).1.2)).Perm (nums q.2 ++ (if s.1 = 1 then [(q.1 : Int)] else [])) := by
  have hnd := h.nodup
  have hrem : ∀ a ∈ q.2, (nums ([a] ++ dropW a.2 q.2)).Perm (nums q.2) := fun a ha => by
    rw [dropW_erase hnd ha]
    exact (List.perm_cons_erase ha).symm.map _
  unfold stpW
  by_cases k1 : s.1 = 1
  · rw [if_pos k1, if_pos k1]
    refine ⟨by simp [pushed, k1], ?_⟩
    simp [nums]
  have e0 : pushed [s] = 0 := by simp [pushed, k1]
  rw [if_neg k1, if_neg k1, e0, List.append_nil, Nat.add_zero]
  by_cases k2 : s.1 = 2
  · rw [if_pos k2]
    by_cases h0 : q.2.length = 0
    · rw [if_pos h0]; exact ⟨rfl, List.Perm.refl _⟩
    · rw [if_neg h0]
      have h1 := (fstW_least h.asc (by omega)).1
      refine ⟨rfl, ?_⟩
      simp only
      rw [fndW_some hnd h1]
      exact hrem _ h1
  rw [if_neg k2]
  by_cases k3 : s.1 = 3
  · rw [if_pos k3]
    refine ⟨rfl, ?_⟩
    by_cases hm : s.2.1 ∈ nums q.2
    · rw [if_pos hm]
      obtain ⟨a, ha, e⟩ := List.mem_map.1 hm
      simp only
      rw [← e, fndW_some hnd ha]
      exact hrem a ha
    · rw [if_neg hm]
      simp only
      rw [dropW_none hm]
      exact List.Perm.refl _
  rw [if_neg k3]
  by_cases k4 : s.1 = 4
  · rw [if_pos k4]
    refine ⟨rfl, ?_⟩
    simp only [List.nil_append]
    rw [nums_setW]
  · rw [if_neg k4]; exact ⟨rfl, List.Perm.refl _⟩
theorem aftW_inv (ss : List St) {q : Nat × List (Int × Int)} (h : InvW q) : InvW (aftW q ss) := by
  induction ss generalizing q with
  | nil => exact h
  | cons s ss ih => exact ih (h.step s)
theorem inv0 : InvW (0, []) := ⟨List.Pairwise.nil, fun n h => by cases h⟩
theorem aftW_nums (ss : List St) {q : Nat × List (Int × Int)} (h : InvW q) : (aftW q ss).1 = q.1 + pushed ss ∧ (nums (outW q ss ++ (aftW q ss).2)).Perm (nums q.2 ++ (List.range' q.1 (pushed ss)).map (fun (n : Nat) => (n : Int))) := by
  induction ss generalizing q with
  | nil => simp [aftW, outW, pushed]
  | cons s ss ih =>
    obtain ⟨h1, h2⟩ := stpW_nums s h
    obtain ⟨h3, h4⟩ := ih (h.step s)
    have hp : pushed (s :: ss) = pushed [s] + pushed ss := pushed_append [s] ss
    refine ⟨by rw [aftW, h3, h1, hp]; omega, ?_⟩
    rw [outW, aftW, List.append_assoc]
    have h5 : (nums ((stpW s q).2 ++ (outW (stpW s q).1 ss ++ (aftW (stpW s q).1 ss).2))).Perm (nums (stpW s q).2 ++ (nums (stpW s q).1.2 ++ (List.range' (stpW s q).1.1 (pushed ss)).map (fun (n : Nat) => (n : Int)))) := by
      unfold nums at h4 ⊢
      rw [List.map_append]
      exact h4.append_left _
    refine h5.trans ?_
    rw [← List.append_assoc]
    have h6 : (nums (stpW s q).2 ++ nums (stpW s q).1.2).Perm (nums q.2 ++ (if s.1 = 1 then [(q.1 : Int)] else [])) := by
      have := h2
      unfold nums at this ⊢
      rwa [List.map_append] at this
    refine (h6.append_right _).trans ?_
    rw [List.append_assoc, h1]
    refine List.Perm.append_left _ ?_
    by_cases k1 : s.1 = 1
    · have e1 : pushed [s] = 1 := by simp [pushed, k1]
      rw [if_pos k1, hp, e1, Nat.add_comm 1, List.range'_succ]
      exact List.Perm.refl _
    · have e1 : pushed [s] = 0 := by simp [pushed, k1]
      rw [if_neg k1, hp, e1, Nat.zero_add, Nat.add_zero]
      exact List.Perm.refl _
/-- What a script returns, and what it leaves in order. -/
def qOut (ss : List St) : List (Int × Int) := outW (0, []) ss
def qHeld (ss : List St) : List (Int × Int) := (aftW (0, []) ss).2
def qRest (ss : List St) : List (Int × Int) := srtQ (qHeld ss)
theorem qInv (ss : List St) : InvW (aftW (0, []) ss) := aftW_inv ss inv0
theorem qMade (ss : List St) : (aftW (0, []) ss).1 = pushed ss := by have := (aftW_nums ss inv0).1; simpa using this
theorem qNums (ss : List St) : (nums (qOut ss ++ qRest ss)).Perm ((List.range (pushed ss)).map (fun (n : Nat) => (n : Int))) := by
  have h := (aftW_nums ss inv0).2
  have e : (nums (qOut ss ++ qRest ss)).Perm (nums (outW (0, []) ss ++ (aftW (0, []) ss).2)) := ((perm_srtQ _).append_left _).map _
  refine e.trans (h.trans ?_)
  rw [List.range_eq_range']
  exact List.Perm.refl _
theorem qLen (ss : List St) : (qOut ss).length + (qRest ss).length = pushed ss := by
  have := (qNums ss).length_eq
  simpa using this
theorem length_qRest (ss : List St) : (qRest ss).length = (qHeld ss).length := length_srtQ _
/-- Each number is below the number of all, and once in all. -/
theorem qOnce (ss : List St) (n : Nat) (h : n < pushed ss) : (nums (qOut ss ++ qRest ss)).count (n : Int) = 1 := by
  rw [(qNums ss).count_eq]
  have hnd : ((List.range (pushed ss)).map (fun (n : Nat) => (n : Int))).Nodup := by
    rw [List.nodup_iff_pairwise_ne, List.pairwise_map]
    exact (List.nodup_iff_pairwise_ne.1 List.nodup_range).imp (fun h e => h (by omega))
  have hm : (n : Int) ∈ (List.range (pushed ss)).map (fun (n : Nat) => (n : Int)) := List.mem_map.2 ⟨n, List.mem_range.2 h, rfl⟩
  exact List.Nodup.count hnd ▸ (if_pos hm)
/-- What the heap's queue returns is what the list's returns. -/
theorem heap_out (ss : List St) : outD (0, []) ss = qOut ss := (queue_W ss).1
theorem heap_rest (ss : List St) : pops ltQ (aftD (0, []) ss).2.length (aftD (0, []) ss).2 = qRest ss := by
  obtain ⟨_, _, h3, h4, _⟩ := queue_W ss
  rw [pops_srtQ h4]
  exact srtQ_perm h3
/-- As many pops as there may be behind a script. -/
theorem drained (k : Nat) {q : Nat × List (Int × Int)} (h : InvW q) (hk : q.2.length ≤ k) : outW q (List.replicate k ((2 : Int), (0 : Int), (0 : Int), (0 : Int))) = srtQ q.2 := by
  induction k generalizing q with
  | zero =>
    have e : q.2 = [] := List.eq_nil_of_length_eq_zero (by omega)
    rw [e]; rfl
  | succ k ih =>
    rw [List.replicate_succ, outW]
    by_cases h0 : q.2.length = 0
    · have e : q.2 = [] := List.eq_nil_of_length_eq_zero h0
      have hs : stpW ((2 : Int), (0 : Int), (0 : Int), (0 : Int)) q = (q, []) := by unfold stpW; rw [if_neg (by simp), if_pos rfl, if_pos h0]
      rw [hs, ih h (by omega)]
      rfl
    · have hs : stpW ((2 : Int), (0 : Int), (0 : Int), (0 : Int)) q = ((q.1, dropW (fstW q.2).2 q.2), [fndW (fstW q.2).2 q.2]) := by unfold stpW; rw [if_neg (by simp), if_pos rfl, if_neg h0]
      have h1 := (fstW_least h.asc (by omega)).1
      have hi := h.step ((2 : Int), (0 : Int), (0 : Int), (0 : Int))
      rw [hs] at hi ⊢
      have hl := length_dropW h.asc (by omega)
      rw [ih hi (by simp only; omega), fndW_some h.nodup h1, dropW_least h.asc (by omega)]
      rfl
/-- Init between two scripts changes nothing. -/
theorem init_between (a b : List St) (x y z : Int) : qOut (a ++ [(5, x, y, z)] ++ b) = qOut (a ++ b) ∧ qHeld (a ++ [(5, x, y, z)] ++ b) = qHeld (a ++ b) := by
  unfold qOut qHeld
  have e : ∀ q, aftW q [((5 : Int), x, y, z)] = q ∧ outW q [((5 : Int), x, y, z)] = [] := fun q => by
    simp [aftW, outW, stpW]
  simp only [outW_append, aftW_append, (e _).1, (e _).2, List.append_nil]
  exact ⟨trivial, trivial⟩
end Go.Proofs.Ytpjdpcpcfcohiaa.Hp
