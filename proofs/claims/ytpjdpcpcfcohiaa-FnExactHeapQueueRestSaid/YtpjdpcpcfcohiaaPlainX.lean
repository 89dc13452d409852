/-
  Queues, plain: which index an entry with a number has in a list of pairs; how swaps, a new pair and the last one taken away change it. No program stands here. No conditions but those that each theorem names.
-/
import Derived.Test.YtpjdpcpcfcohiaaPlainW
namespace Go.Proofs.Ytpjdpcpcfcohiaa.Hp

/-- The index of the pair with a number, or -1. -/
def ix (l : List (Int × Int)) (n : Int) : Int := if n ∈ nums l then (((nums l).idxOf n : Nat) : Int) else -1
theorem ix_none {l : List (Int × Int)} {n : Int} (h : n ∉ nums l) : ix l n = -1 := if_neg h
theorem mem_nums_g {l : List (Int × Int)} {i : Nat} (hi : i < l.length) : (g l i).2 ∈ nums l := List.mem_map_of_mem (mem_g hi)
theorem nums_at {l : List (Int × Int)} {i : Nat} (hi : i < l.length) : (nums l)[i]'(by simpa using hi) = (g l i).2 := by
  rw [List.getElem_map, g_eq hi]
theorem ix_of {l : List (Int × Int)} {n : Int} {i : Nat} (hn : (nums l).Nodup) (hi : i < l.length) (h : (g l i).2 = n) : ix l n = i := by
  have hm : n ∈ nums l := h ▸ mem_nums_g hi
  unfold ix
  rw [if_pos hm]
  obtain ⟨h1, h2⟩ := idxOf_nums hm
  have h3 : (nums l)[(nums l).idxOf n]'(by simpa using h1) = (nums l)[i]'(by simpa using hi) := by rw [nums_at h1, nums_at hi, h2, h]
  have := (List.getElem_inj hn).1 h3
  omega
theorem num_inj {l : List (Int × Int)} {i j : Nat} (hn : (nums l).Nodup) (hi : i < l.length) (hj : j < l.length) (h : (g l i).2 = (g l j).2) : i = j := by
  have h1 := ix_of hn hi rfl
  have h2 := ix_of hn hj h.symm
  omega
theorem ix_mem {l : List (Int × Int)} {n : Int} (h : n ∈ nums l) : ∃ i, i < l.length ∧ ix l n = i ∧ (g l i).2 = n := by
  obtain ⟨h1, h2⟩ := idxOf_nums h
  exact ⟨_, h1, by unfold ix; rw [if_pos h], h2⟩
theorem ix_nonneg {l : List (Int × Int)} {n : Int} : 0 ≤ ix l n ↔ n ∈ nums l := by
  unfold ix
  split
  · next h => exact ⟨fun _ => h, fun _ => by omega⟩
  · next h => exact ⟨fun h => by omega, fun h' => absurd h' h⟩
theorem nums_perm {l r : List (Int × Int)} (h : l.Perm r) : (nums l).Perm (nums r) := h.map _
theorem ix_swp {l : List (Int × Int)} {i j : Nat} (hn : (nums l).Nodup) (hi : i < l.length) (hj : j < l.length) (n : Int) :
    ix (swp l i j) n = if n = (g l i).2 then (j : Int) else if n = (g l j).2 then (i : Int) else ix l n := by
  have hp := nums_perm (perm_swp hi hj)
  have hn2 : (nums (swp l i j)).Nodup := hp.nodup_iff.2 hn
  have hl : (swp l i j).length = l.length := by simp [swp]
  split
  · next h => exact ix_of hn2 (by omega) (by rw [g_swp hi hj, if_pos rfl, h])
  · next h1 =>
    split
    · next h2 =>
      refine ix_of hn2 (by omega) ?_
      have hne : i ≠ j := fun e => h1 (by rw [e]; exact h2)
      rw [g_swp hi hj, if_neg hne, if_pos rfl, h2]
    · next h2 =>
      by_cases hm : n ∈ nums l
      · obtain ⟨k, hk, e1, e2⟩ := ix_mem hm
        rw [e1]
        refine ix_of hn2 (by omega) ?_
        rw [g_swp hi hj, if_neg (fun e => h2 (by rw [← e, e2])), if_neg (fun e => h1 (by rw [← e, e2])), e2]
      · rw [ix_none hm, ix_none (fun h => hm (hp.mem_iff.1 h))]
theorem ix_append {l : List (Int × Int)} {x : Int × Int} (hn : (nums l).Nodup) (hx : x.2 ∉ nums l) (n : Int) : ix (l ++ [x]) n = if n = x.2 then (l.length : Int) else ix l n := by
  have hn2 : (nums (l ++ [x])).Nodup := by
    simp only [nums, List.map_append, List.map_cons, List.map_nil]
    rw [List.nodup_append]
    exact ⟨hn, by simp, fun a ha b hb e => hx (by simp at hb; rw [← hb, ← e]; exact ha)⟩
  split
  · next h => exact ix_of hn2 (by simp) (by rw [g_append_last, h])
  · next h =>
    by_cases hm : n ∈ nums l
    · obtain ⟨k, hk, e1, e2⟩ := ix_mem hm
      rw [e1]
      exact ix_of hn2 (by simp; omega) (by rw [g_append_left hk, e2])
    · rw [ix_none hm, ix_none]
      simp only [nums, List.map_append, List.map_cons, List.map_nil, List.mem_append, List.mem_singleton]
      rintro (h' | h')
      · exact hm h'
      · exact h h'
theorem nums_dropLast (l : List (Int × Int)) : nums l.dropLast = (nums l).dropLast := by simp [nums, List.map_dropLast]
theorem ix_dropLast {l : List (Int × Int)} (hn : (nums l).Nodup) (h0 : 0 < l.length) (n : Int) : ix l.dropLast n = if n = (g l (l.length - 1)).2 then -1 else ix l n := by
  have hs := dropLast_g h0
  have hn2 : (nums (l.dropLast ++ [g l (l.length - 1)])).Nodup := by rw [hs]; exact hn
  have hn3 : (nums l.dropLast).Nodup ∧ (g l (l.length - 1)).2 ∉ nums l.dropLast := by
    simp only [nums, List.map_append, List.map_cons, List.map_nil] at hn2
    rw [List.nodup_append] at hn2
    exact ⟨hn2.1, fun h => hn2.2.2 _ h _ (List.mem_singleton_self _) rfl⟩
  have h1 := ix_append hn3.1 hn3.2 n
  rw [hs] at h1
  split
  · next h => rw [h]; exact ix_none hn3.2
  · next h => rw [h1, if_neg h]

/-- The pairs of a queue, beside the keys of all entries. -/
structure QV (c : Nat) (K : List Int) (l : List (Int × Int)) : Prop where
  nod : (nums l).Nodup
  mem : ∀ p ∈ l, 0 ≤ p.2 ∧ p.2 < (c : Int) ∧ g K p.2.toNat = p.1
  few : l.length ≤ c
theorem QV.perm {c : Nat} {K : List Int} {l r : List (Int × Int)} (h : QV c K l) (hp : r.Perm l) : QV c K r :=
  ⟨(nums_perm hp).nodup_iff.2 h.nod, fun p hm => h.mem p (hp.mem_iff.1 hm), by rw [hp.length_eq]; exact h.few⟩
theorem QV.swp {c : Nat} {K : List Int} {l : List (Int × Int)} (h : QV c K l) {i j : Nat} (hi : i < l.length) (hj : j < l.length) : QV c K (swp l i j) := h.perm (perm_swp hi hj)
theorem QV.drop {c : Nat} {K : List Int} {l : List (Int × Int)} (h : QV c K l) : QV c K l.dropLast :=
  ⟨by rw [nums_dropLast]; exact h.nod.sublist (List.dropLast_sublist _), fun p hm => h.mem p ((List.dropLast_sublist l).subset hm), by rw [List.length_dropLast]; have := h.few; omega⟩
theorem QV.push {c : Nat} {K : List Int} {l : List (Int × Int)} (h : QV c K l) (hK : K.length = c) (k : Int) : QV (c + 1) (K ++ [k]) (l ++ [(k, (c : Int))]) ∧ (c : Int) ∉ nums l := by
  have hx : (c : Int) ∉ nums l := by
    intro hm
    obtain ⟨p, hp, e⟩ := List.mem_map.1 hm
    have := (h.mem p hp).2.1
    omega
  refine ⟨⟨?_, ?_, ?_⟩, hx⟩
  · simp only [nums, List.map_append, List.map_cons, List.map_nil]
    rw [List.nodup_append]
    exact ⟨h.nod, by simp, fun a ha b hb e => hx (by simp at hb; rw [← hb, ← e]; exact ha)⟩
  · intro p hp
    rcases List.mem_append.1 hp with hp | hp
    · obtain ⟨h1, h2, h3⟩ := h.mem p hp
      refine ⟨h1, by push_cast; omega, ?_⟩
      rw [g_append_left (by omega), h3]
    · have e : p = (k, (c : Int)) := by simpa using hp
      subst e
      refine ⟨by omega, by push_cast; omega, ?_⟩
      show g (K ++ [k]) ((c : Int)).toNat = k
      rw [Int.toNat_natCast, ← hK, g_append_last]
  · rw [List.length_append]
    have := h.few
    simp
    omega
theorem nums_set {l : List (Int × Int)} {p : Nat} (hp : p < l.length) (k : Int) : nums (l.set p (k, (g l p).2)) = nums l := by
  unfold nums
  rw [List.map_set]
  have : (l.map Prod.snd)[p]? = some (g l p).2 := by rw [List.getElem?_map, g_lt hp]; rfl
  apply List.ext_getElem?
  intro j
  rw [List.getElem?_set]
  split
  · next e =>
    subst e
    rw [if_pos (by simpa using hp), this]
  · rfl
theorem ix_set {l : List (Int × Int)} {p : Nat} (hp : p < l.length) (k n : Int) : ix (l.set p (k, (g l p).2)) n = ix l n := by
  unfold ix
  rw [nums_set hp]
theorem QV.set {c : Nat} {K : List Int} {l : List (Int × Int)} (h : QV c K l) (hK : K.length = c) {p : Nat} (hp : p < l.length) (k : Int) : QV c (K.set (g l p).2.toNat k) (l.set p (k, (g l p).2)) := by
  obtain ⟨m1, m2, m3⟩ := h.mem _ (mem_g hp)
  refine ⟨by rw [nums_set hp]; exact h.nod, ?_, by rw [List.length_set]; exact h.few⟩
  intro q hq
  rcases set_mem_cases hp hq with e | ⟨j, hj, hjp, e⟩
  · subst e
    refine ⟨m1, m2, ?_⟩
    rw [g_set _ _ (by omega), if_pos rfl]
  · subst e
    obtain ⟨h1, h2, h3⟩ := h.mem _ (mem_g hj)
    refine ⟨h1, h2, ?_⟩
    rw [g_set _ _ (by omega), if_neg ?_, h3]
    intro e
    exact hjp (num_inj h.nod hj hp (by omega))
end Go.Proofs.Ytpjdpcpcfcohiaa.Hp
