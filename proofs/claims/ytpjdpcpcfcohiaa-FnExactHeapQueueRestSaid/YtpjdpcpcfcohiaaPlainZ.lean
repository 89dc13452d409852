/-
  The laws of a queue, plain. No program stands here. No conditions but those that each theorem names.
-/
import Derived.Test.YtpjdpcpcfcohiaaPlainY
namespace Go.Proofs.Ytpjdpcpcfcohiaa.Hp

theorem map_fst_srtQ {a b : List (Int × Int)} (h : (a.map Prod.fst).Perm (b.map Prod.fst)) : (srtQ a).map Prod.fst = (srtQ b).map Prod.fst := by
  have hs : ∀ l : List (Int × Int), ((srtQ l).map Prod.fst).Pairwise (· ≤ ·) := fun l => by
    rw [List.pairwise_map]
    exact (sorted_srtQ l).imp (fun h => by unfold leQ at h; omega)
  exact sorted_unique _ _ (hs a) (hs b) (((perm_srtQ a).map _).trans (h.trans ((perm_srtQ b).map _).symm))
theorem erase_srtQ (t : List (Int × Int)) (a : Int × Int) : (srtQ t).erase a = srtQ (t.erase a) :=
  uniqueQ _ _ ((sorted_srtQ t).sublist List.erase_sublist) (sorted_srtQ _) (((perm_srtQ t).erase a).trans (perm_srtQ _).symm)
theorem qRest_mem {ss : List St} {a : Int × Int} : a ∈ qRest ss ↔ a ∈ qHeld ss := (perm_srtQ _).mem_iff
theorem qHeld_snoc (ss : List St) (s : St) : qHeld (ss ++ [s]) = (stpW s (aftW (0, []) ss)).1.2 := by unfold qHeld; rw [aftW_append]; rfl
theorem qOut_snoc (ss : List St) (s : St) : qOut (ss ++ [s]) = qOut ss ++ (stpW s (aftW (0, []) ss)).2 := by unfold qOut; rw [outW_append]; simp [outW]
theorem qHeld_nodup (ss : List St) : (nums (qHeld ss)).Nodup := (qInv ss).nodup
theorem fix_rest (ss : List St) {a : Int × Int} (ha : a ∈ qRest ss) (k z : Int) : (qRest (ss ++ [(4, a.2, k, z)])).Perm ((qRest ss).erase a ++ [(k, a.2)]) := by
  have hm := qRest_mem.1 ha
  unfold qRest
  rw [qHeld_snoc]
  have e : (stpW ((4 : Int), a.2, k, z) (aftW (0, []) ss)).1.2 = setW a.2 k (qHeld ss) := by
    unfold stpW; rw [if_neg (by simp), if_neg (by simp), if_neg (by simp), if_pos rfl]; rfl
  rw [e, erase_srtQ]
  exact (perm_srtQ _).trans ((setW_perm (qHeld_nodup ss) hm).trans ((perm_srtQ _).symm.append_right _))
theorem fix_nothing (ss : List St) {a : Int × Int} (ha : a ∈ qRest ss) (z : Int) : qRest (ss ++ [(4, a.2, a.1, z)]) = qRest ss := by
  have h := fix_rest ss ha a.1 z
  refine uniqueQ _ _ (sorted_srtQ _) (sorted_srtQ _) (h.trans ?_)
  exact perm_erase_append ha
theorem rem_rest (ss : List St) {a : Int × Int} (ha : a ∈ qRest ss) (y z : Int) : qRest (ss ++ [(3, a.2, y, z)]) = (qRest ss).erase a ∧ qOut (ss ++ [(3, a.2, y, z)]) = qOut ss ++ [a] := by
  have hm := qRest_mem.1 ha
  have e : stpW ((3 : Int), a.2, y, z) (aftW (0, []) ss) = (((aftW (0, []) ss).1, dropW a.2 (qHeld ss)), [a]) := by
    unfold stpW
    rw [if_neg (by simp), if_neg (by simp), if_pos rfl]
    have hmn : a.2 ∈ nums (aftW (0, []) ss).2 := List.mem_map_of_mem hm
    simp only
    rw [if_pos hmn]
    have := fndW_some (qHeld_nodup ss) hm
    unfold qHeld at this
    rw [this]
    rfl
  refine ⟨?_, by rw [qOut_snoc, e]⟩
  unfold qRest
  rw [qHeld_snoc, e]
  simp only
  rw [dropW_erase (qHeld_nodup ss) hm, erase_srtQ]
theorem moved_keys (ss : List St) {a : Int × Int} (ha : a ∈ qRest ss) (k x1 x2 x3 x4 z : Int) : (qRest (ss ++ [(3, a.2, x1, x2)] ++ [(1, x3, k, x4)])).map Prod.fst = (qRest (ss ++ [(4, a.2, k, z)])).map Prod.fst := by
  have h1 := (rem_rest ss ha x1 x2).1
  have h2 := fix_rest ss ha k z
  have e : qHeld (ss ++ [((3 : Int), a.2, x1, x2)] ++ [((1 : Int), x3, k, x4)]) = qHeld (ss ++ [((3 : Int), a.2, x1, x2)]) ++ [(k, ((aftW (0, []) (ss ++ [((3 : Int), a.2, x1, x2)])).1 : Int))] := by
    rw [qHeld_snoc]
    unfold stpW
    rw [if_pos rfl]
    rfl
  unfold qRest at h1 h2 ⊢
  refine map_fst_srtQ ?_
  rw [e]
  have h3 : (qHeld (ss ++ [((3 : Int), a.2, x1, x2)])).Perm ((srtQ (qHeld ss)).erase a) := (perm_srtQ _).symm.trans (List.Perm.of_eq h1)
  have h4 := ((perm_srtQ _).symm.trans h2).map Prod.fst
  refine List.Perm.trans ?_ h4.symm
  rw [List.map_append, List.map_append]
  exact (h3.map _).append_right _
theorem length_fixQ (ss : List St) {a : Int × Int} (ha : a ∈ qRest ss) (k z : Int) : (qRest (ss ++ [(4, a.2, k, z)])).length = (qRest ss).length := by
  rw [(fix_rest ss ha k z).length_eq, List.length_append, List.length_erase_of_mem ha]
  have := List.length_pos_of_mem ha
  simp
  omega

/-- Entries with these keys, in the order in which they are pushed. -/
def stP (v : Int) : St := (1, 0, v, 0)
theorem pushes_from (x : List Int) (c : Nat) (t : List (Int × Int)) : aftW (c, t) (x.map stP) = (c + x.length, t ++ x.mapIdx (fun i k => (k, ((c + i : Nat) : Int)))) := by
  induction x generalizing c t with
  | nil => simp [aftW]
  | cons k x ih =>
    have hs : (stpW (stP k) (c, t)).1 = (c + 1, t ++ [(k, (c : Int))]) := by unfold stpW stP; rw [if_pos rfl]
    rw [List.map_cons, aftW, hs, ih, List.mapIdx_cons, List.append_assoc, List.length_cons]
    have e : (fun (i : Nat) (k : Int) => (k, ((c + 1 + i : Nat) : Int))) = fun i k => (k, ((c + (i + 1) : Nat) : Int)) := by
      funext i k
      rw [Nat.add_assoc, Nat.add_comm 1 i]
    rw [e]
    exact Prod.ext (by simp only; omega) (by simp)
theorem pushes_held (x : List Int) : aftW (0, []) (x.map stP) = (x.length, x.mapIdx (fun i k => (k, (i : Int)))) := by
  rw [pushes_from]
  simp
theorem stable (x : List Int) : (qRest (x.map stP)).length = x.length ∧ (∀ p ∈ qRest (x.map stP), 0 ≤ p.2 ∧ p.2 < (x.length : Int) ∧ g x p.2.toNat = p.1) ∧
    ∀ i, i + 1 < (qRest (x.map stP)).length → ¬ ((g (qRest (x.map stP)) (i + 1)).1 < (g (qRest (x.map stP)) i).1) ∧ ¬ ((g (qRest (x.map stP)) (i + 1)).1 = (g (qRest (x.map stP)) i).1 ∧ (g (qRest (x.map stP)) (i + 1)).2 ≤ (g (qRest (x.map stP)) i).2) := by
  have hh : qHeld (x.map stP) = x.mapIdx (fun i k => (k, (i : Int))) := by unfold qHeld; rw [pushes_held]
  refine ⟨by rw [length_qRest, hh]; simp, ?_, ?_⟩
  · intro p hp
    have h1 := qRest_mem.1 hp
    rw [hh, List.mem_mapIdx] at h1
    obtain ⟨i, hi, e⟩ := h1
    subst e
    refine ⟨by simp, by simpa using hi, ?_⟩
    show g x ((i : Int)).toNat = x[i]
    rw [Int.toNat_natCast, g_eq hi]
  · intro i hi
    have hs := sorted_srtQ (qHeld (x.map stP))
    have hnd : (nums (qRest (x.map stP))).Nodup := (nums_perm (perm_srtQ _)).nodup_iff.2 (qHeld_nodup _)
    have h1 := List.pairwise_iff_getElem.1 hs i (i + 1) (by have := hi; unfold qRest at this; omega) hi (by omega)
    have e1 : (srtQ (qHeld (x.map stP)))[i]'(by have := hi; unfold qRest at this; omega) = g (qRest (x.map stP)) i := g_eq (l := qRest (x.map stP)) (by omega)
    have e2 : (srtQ (qHeld (x.map stP)))[i + 1]'hi = g (qRest (x.map stP)) (i + 1) := g_eq (l := qRest (x.map stP)) hi
    rw [e1, e2] at h1
    have hne : (g (qRest (x.map stP)) i).2 ≠ (g (qRest (x.map stP)) (i + 1)).2 := fun e => by
      have := num_inj hnd (by omega) hi e
      omega
    unfold leQ at h1
    omega

/-- The heap's list of a script. -/
def qHeap (ss : List St) : List (Int × Int) := (aftD (0, []) ss).2
theorem qHeap_perm (ss : List St) : (qHeap ss).Perm (qHeld ss) := (queue_W ss).2.2.1
theorem qHeap_rest (ss : List St) : (qHeap ss).Perm (qRest ss) := (qHeap_perm ss).trans (perm_srtQ _).symm
theorem qHeap_HO (ss : List St) : HO ltQ (qHeap ss) (qHeap ss).length := (queue_W ss).2.2.2.1
theorem qHeap_nodup (ss : List St) : (nums (qHeap ss)).Nodup := (nums_perm (qHeap_perm ss)).nodup_iff.2 (qHeld_nodup ss)
theorem qRest_nodup (ss : List St) : (nums (qRest ss)).Nodup := (nums_perm (perm_srtQ _)).nodup_iff.2 (qHeld_nodup ss)
theorem qMadeD (ss : List St) : (aftD (0, []) ss).1 = pushed ss := by rw [(queue_W ss).2.1, qMade]
/-- The places in the rest of the heap's numbers have heap order. -/
theorem places_order (ss : List St) (j : Nat) (h0 : 0 < j) (hj : j < (qHeap ss).length) : ix (qRest ss) (g (qHeap ss) ((j - 1) / 2)).2 ≤ ix (qRest ss) (g (qHeap ss) j).2 := by
  have hp := qHeap_rest ss
  have hh := ltQ_false.1 (qHeap_HO ss j h0 hj)
  obtain ⟨p, hp1, hp2⟩ := g_of_mem (hp.mem_iff.1 (mem_g (l := qHeap ss) (i := (j - 1) / 2) (by omega)))
  obtain ⟨q, hq1, hq2⟩ := g_of_mem (hp.mem_iff.1 (mem_g (l := qHeap ss) (i := j) hj))
  rw [ix_of (qRest_nodup ss) hp1 (by rw [hp2]), ix_of (qRest_nodup ss) hq1 (by rw [hq2])]
  rcases Nat.lt_or_ge q p with hlt | hge
  · have hs := List.pairwise_iff_getElem.1 (sorted_srtQ (qHeld ss)) q p hq1 hp1 hlt
    have e1 : (srtQ (qHeld ss))[q]'hq1 = g (qRest ss) q := g_eq (l := qRest ss) hq1
    have e2 : (srtQ (qHeld ss))[p]'hp1 = g (qRest ss) p := g_eq (l := qRest ss) hp1
    rw [e1, e2, hp2, hq2] at hs
    have he := leQ_antisymm hh hs
    have := num_inj (qRest_nodup ss) hp1 hq1 (by rw [hp2, hq2, he])
    omega
  · omega
/-- The indices of all entries. -/
def idxs (c : Nat) (l : List (Int × Int)) : List Int := (List.range c).map (fun (n : Nat) => ix l (n : Int))
theorem length_idxs (c : Nat) (l : List (Int × Int)) : (idxs c l).length = c := by simp [idxs]
theorem idxs_at {c n : Nat} (l : List (Int × Int)) (h : n < c) : g (idxs c l) n = ix l (n : Int) := by
  rw [← g_eq (by rw [length_idxs]; exact h)]
  simp [idxs]
theorem idxs_held (ss : List St) : (idxs (pushed ss) (qHeap ss)).countP (fun i => decide (0 ≤ i)) = (qHeap ss).length := by
  have hnd := qHeap_nodup ss
  unfold idxs
  rw [List.countP_map]
  have e : ((fun i => decide (0 ≤ i)) ∘ fun (n : Nat) => ix (qHeap ss) (n : Int)) = fun (n : Nat) => decide ((n : Int) ∈ nums (qHeap ss)) := by
    funext n
    simp only [Function.comp]
    rw [decide_eq_decide]
    exact ix_nonneg
  rw [e, List.countP_eq_length_filter]
  have hp : (((List.range (pushed ss)).filter (fun (n : Nat) => decide ((n : Int) ∈ nums (qHeap ss)))).map (fun (n : Nat) => (n : Int))).Perm (nums (qHeap ss)) := by
    rw [List.perm_ext_iff_of_nodup ?_ hnd]
    · intro a
      rw [List.mem_map]
      constructor
      · rintro ⟨n, hn, rfl⟩
        exact of_decide_eq_true (List.mem_filter.1 hn).2
      · intro ha
        have h1 := (qInv ss).low a ((nums_perm (qHeap_perm ss)).mem_iff.1 ha)
        rw [qMade] at h1
        have e2 : ((a.toNat : Nat) : Int) = a := by omega
        exact ⟨a.toNat, List.mem_filter.2 ⟨List.mem_range.2 (by omega), decide_eq_true (by rw [e2]; exact ha)⟩, e2⟩
    · rw [List.nodup_iff_pairwise_ne, List.pairwise_map]
      exact (List.nodup_iff_pairwise_ne.1 (List.nodup_range.sublist List.filter_sublist)).imp (fun h e => h (by omega))
  have := hp.length_eq
  simpa using this
end Go.Proofs.Ytpjdpcpcfcohiaa.Hp
