/-
  Plain lists: how many calls of Less and Swap the library's functions make, and that the calls, made anew, lead to the same list. No program stands here. No conditions but those that each theorem names.
-/
import Derived.Test.YtfmfndpeiffehaaPlainB
namespace Go.Proofs.Ytfmfndpeiffehaa.Hp
section
variable {α : Type} [Inhabited α]

/-- How many binary digits a number has. -/
def bitsN (n : Nat) : Nat := if n = 0 then 0 else Nat.log2 n + 1

theorem bits_zero : bitsN 0 = 0 := rfl
theorem bits_half {n : Nat} (h : 0 < n) : bitsN n = bitsN (n / 2) + 1 := by
  unfold bitsN
  rw [if_neg (by omega)]
  by_cases h2 : 2 ≤ n
  · rw [if_neg (by omega), Nat.log2_def, if_pos h2]
  · have : n = 1 := by omega
    subst this
    simp [Nat.log2_def]
theorem bits_mono : ∀ (m n : Nat), m ≤ n → bitsN m ≤ bitsN n := by
  intro m
  induction m using Nat.strongRecOn with
  | ind m ih =>
    intro n h
    by_cases h0 : m = 0
    · subst h0; rw [bits_zero]; omega
    · rw [bits_half (by omega), bits_half (n := n) (by omega)]
      have := ih (m / 2) (by omega) (n / 2) (by omega)
      omega
theorem bits_pos {n : Nat} (h : 0 < n) : 1 ≤ bitsN n := by rw [bits_half h]; omega
theorem bits_le (k : Nat) : ∀ n, n < 2 ^ k → bitsN n ≤ k := by
  induction k with
  | zero => intro n h; have : n = 0 := by simpa using h
            subst this; rw [bits_zero]; omega
  | succ k ih =>
    intro n h
    by_cases h0 : n = 0
    · subst h0; rw [bits_zero]; omega
    · rw [bits_half (by omega)]
      have := ih (n / 2) (by rw [Nat.pow_succ] at h; omega)
      omega

/-- How many calls are of a kind. -/
def kinds (c : Int) (tr : List Ev) : Nat := tr.countP (fun e => e.1 == c)
theorem kinds_nil (c : Int) : kinds c [] = 0 := rfl
theorem kinds_append (c : Int) (a b : List Ev) : kinds c (a ++ b) = kinds c a + kinds c b := by simp [kinds, List.countP_append]
theorem kinds_cons (c : Int) (e : Ev) (b : List Ev) : kinds c (e :: b) = kinds c b + if e.1 = c then 1 else 0 := by
  simp [kinds, List.countP_cons]

theorem half_step {n i j : Nat} (hj : 2 * i + 1 ≤ j) (hn : 2 * i + 1 < n) : bitsN (n / (j + 1)) + 1 ≤ bitsN (n / (i + 1)) := by
  have h1 : n / (j + 1) ≤ n / (i + 1) / 2 := by
    rw [Nat.div_div_eq_div_mul]
    exact Nat.div_le_div_left (by omega) (by omega)
  have h2 : 0 < n / (i + 1) := Nat.div_pos (by omega) (by omega)
  have h3 := bits_mono _ _ h1
  rw [bits_half h2]
  omega
theorem half_one {n i : Nat} (hn : 2 * i + 1 < n) : 2 ≤ bitsN (n / (i + 1)) := by
  have h2 : 2 ≤ n / (i + 1) := (Nat.le_div_iff_mul_le (by omega)).2 (by omega)
  have h3 : 0 < n / (i + 1) := by omega
  rw [bits_half h3]
  have := bits_pos (n := n / (i + 1) / 2) (by omega)
  omega

theorem down_count (lt : α → α → Bool) (n : Nat) : ∀ (k : Nat) (l : List α) (i : Nat), i < n → kinds 1 (downE lt n k l i) + 2 ≤ 2 * bitsN (n / (i + 1)) ∧ kinds 2 (downE lt n k l i) + 1 ≤ bitsN (n / (i + 1))
  | 0, l, i, hi => by
    have := bits_pos (n := n / (i + 1)) (Nat.div_pos (by omega) (by omega))
    simp only [downE, kinds_nil]
    omega
  | k + 1, l, i, hi => by
    have hp := bits_pos (n := n / (i + 1)) (Nat.div_pos (by omega) (by omega))
    unfold downE
    by_cases hc : 2 * i + 1 < n
    · rw [if_pos hc]
      obtain ⟨_, h2, h3⟩ := child_cases lt l i n hc
      have hj : 2 * i + 1 ≤ child lt l i n := by omega
      have ih := down_count lt n k (swp l i (child lt l i n)) (child lt l i n) h2
      have hs := half_step hj hc
      have ho := half_one hc
      rw [kinds_append, kinds_append, kinds_cons, kinds_cons]
      split <;> split <;> simp [kinds_cons, kinds_nil] at * <;> omega
    · rw [if_neg hc, kinds_nil, kinds_nil]
      omega

theorem up_count (lt : α → α → Bool) : ∀ (k : Nat) (l : List α) (j : Nat), kinds 1 (upE lt k l j) ≤ bitsN j ∧ kinds 2 (upE lt k l j) ≤ bitsN j
  | 0, _, j => by simp [upE, kinds_nil]
  | k + 1, l, j => by
    unfold upE
    by_cases h0 : j = 0
    · rw [if_pos h0, kinds_nil, kinds_nil]; omega
    · rw [if_neg h0, kinds_cons, kinds_cons]
      have ih := up_count lt k (swp l ((j - 1) / 2) j) ((j - 1) / 2)
      have hb := bits_half (n := j) (by omega)
      have hm := bits_mono ((j - 1) / 2) (j / 2) (by omega)
      split <;> simp [kinds_cons, kinds_nil] at * <;> omega

theorem other_kinds (c : Int) (h1 : c ≠ 1) (h2 : c ≠ 2) (lt : α → α → Bool) (n : Nat) : ∀ (k : Nat) (l : List α) (i : Nat), kinds c (downE lt n k l i) = 0
  | 0, _, _ => rfl
  | k + 1, l, i => by
    unfold downE
    have ih := other_kinds c h1 h2 lt n k (swp l i (child lt l i n)) (child lt l i n)
    split
    · rw [kinds_append, kinds_cons]
      split <;> split <;> simp [kinds_cons, kinds_nil, ih, Ne.symm h1, Ne.symm h2]
    · rfl
theorem other_kinds_up (c : Int) (h1 : c ≠ 1) (h2 : c ≠ 2) (lt : α → α → Bool) : ∀ (k : Nat) (l : List α) (j : Nat), kinds c (upE lt k l j) = 0
  | 0, _, _ => rfl
  | k + 1, l, j => by
    unfold upE
    have ih := other_kinds_up c h1 h2 lt k (swp l ((j - 1) / 2) j) ((j - 1) / 2)
    split
    · rfl
    · rw [kinds_cons]
      split <;> simp [kinds_cons, kinds_nil, ih, Ne.symm h1, Ne.symm h2]

/-- Each call is of Less or of Swap. -/
theorem length_kinds : ∀ (tr : List Ev), (∀ e ∈ tr, e.1 = 1 ∨ e.1 = 2) → tr.length = kinds 1 tr + kinds 2 tr
  | [], _ => rfl
  | e :: tr, h => by
    have ih := length_kinds tr (fun x hx => h x (List.mem_cons_of_mem _ hx))
    rw [kinds_cons, kinds_cons, List.length_cons]
    rcases h e List.mem_cons_self with h1 | h1 <;> simp [h1] <;> omega
theorem down_kinds (lt : α → α → Bool) (n : Nat) : ∀ (k : Nat) (l : List α) (i : Nat), ∀ e ∈ downE lt n k l i, e.1 = 1 ∨ e.1 = 2
  | 0, _, _, e, he => by simp [downE] at he
  | k + 1, l, i, e, he => by
    unfold downE at he
    have ih := down_kinds lt n k (swp l i (child lt l i n)) (child lt l i n)
    split at he
    · rw [List.mem_append, List.mem_cons] at he
      rcases he with he | he | he
      · split at he
        · simp at he; simp [he]
        · cases he
      · simp [he]
      · split at he
        · rw [List.mem_cons] at he
          rcases he with he | he
          · simp [he]
          · exact ih e he
        · cases he
    · cases he
theorem up_kinds (lt : α → α → Bool) : ∀ (k : Nat) (l : List α) (j : Nat), ∀ e ∈ upE lt k l j, e.1 = 1 ∨ e.1 = 2
  | 0, _, _, e, he => by simp [upE] at he
  | k + 1, l, j, e, he => by
    unfold upE at he
    have ih := up_kinds lt k (swp l ((j - 1) / 2) j) ((j - 1) / 2)
    split at he
    · cases he
    · rw [List.mem_cons] at he
      rcases he with he | he
      · simp [he]
      · split at he
        · rw [List.mem_cons] at he
          rcases he with he | he
          · simp [he]
          · exact ih e he
        · cases he
theorem mend_kinds (lt : α → α → Bool) (l : List α) (i n : Nat) : ∀ e ∈ mendCalls lt l i n, e.1 = 1 ∨ e.1 = 2 := by
  intro e he
  unfold mendCalls downCalls at he
  rw [List.mem_append] at he
  rcases he with he | he
  · exact down_kinds lt n n l i e he
  · split at he
    · cases he
    · exact up_kinds lt _ _ i e he

/-- down that has moved nothing makes at most two calls, none of Swap. -/
theorem down_still (lt : α → α → Bool) (l : List α) (i n : Nat) (h : ¬ i < (down lt l i n).2) : kinds 1 (downCalls lt l i n) ≤ 2 ∧ kinds 2 (downCalls lt l i n) = 0 := by
  by_cases h0 : n = 0
  · subst h0
    exact ⟨Nat.zero_le _, rfl⟩
  · obtain ⟨k, hk⟩ : ∃ k, k + 1 = n := ⟨n - 1, by omega⟩
    have e1 : down lt l i n = downF lt n (k + 1) l i := by rw [down, hk]
    have e2 : downCalls lt l i n = downE lt n (k + 1) l i := by rw [downCalls, hk]
    rw [e1, downF] at h
    rw [e2, downE]
    by_cases hc : 2 * i + 1 < n
    · rw [if_pos hc] at h
      rw [if_pos hc]
      obtain ⟨_, h2, h3⟩ := child_cases lt l i n hc
      have hl : ¬ lt (g l (child lt l i n)) (g l i) = true := by
        intro hl
        rw [if_pos hl] at h
        have := downF_moved lt n k (swp l i (child lt l i n)) (child lt l i n)
        omega
      rw [if_neg hl, kinds_append, kinds_append, kinds_cons, kinds_cons]
      split <;> simp [kinds_cons, kinds_nil]
    · rw [if_neg hc]
      exact ⟨Nat.zero_le _, rfl⟩

theorem mend_count (lt : α → α → Bool) (l : List α) (i n : Nat) (hi : i < n) : kinds 1 (mendCalls lt l i n) ≤ 3 * bitsN n ∧ kinds 2 (mendCalls lt l i n) ≤ bitsN n := by
  have hb : bitsN (n / (i + 1)) ≤ bitsN n := bits_mono _ _ (Nat.div_le_self _ _)
  have hp := bits_pos (n := n) (by omega)
  have hbi : bitsN i ≤ bitsN n := bits_mono _ _ (by omega)
  unfold mendCalls
  rw [kinds_append, kinds_append]
  split
  · have := down_count lt n n l i hi
    unfold downCalls
    rw [kinds_nil, kinds_nil]
    omega
  · next h =>
    have h1 := down_still lt l i n h
    have h2 := up_count lt (i + 1) (down lt l i n).1 i
    unfold upCalls
    omega

/-- Fix of a list of at least two asks at least once. -/
theorem mend_asks (lt : α → α → Bool) (l : List α) (i n : Nat) (_hi : i < n) (h2 : 2 ≤ n) : 0 < kinds 1 (mendCalls lt l i n) := by
  unfold mendCalls
  rw [kinds_append]
  by_cases hc : 2 * i + 1 < n
  · have : 0 < kinds 1 (downCalls lt l i n) := by
      unfold downCalls
      obtain ⟨k, rfl⟩ : ∃ k, n = k + 1 := ⟨n - 1, by omega⟩
      rw [downE, if_pos hc, kinds_append, kinds_cons]
      simp
      omega
    omega
  · have hd : down lt l i n = (l, i) := by
      unfold down
      obtain ⟨k, rfl⟩ : ∃ k, n = k + 1 := ⟨n - 1, by omega⟩
      rw [downF, if_neg hc]
    rw [hd, if_neg (by simp)]
    have : 0 < kinds 1 (upCalls lt (l, i).1 i) := by
      unfold upCalls
      rw [upE, if_neg (by omega), kinds_cons]
      simp
    omega

theorem mend_length (lt : α → α → Bool) (l : List α) (i n : Nat) (hi : i < n) (hn : n < 4611686018427387904) : (mendCalls lt l i n).length ≤ 256 := by
  rw [length_kinds _ (mend_kinds lt l i n)]
  have h1 := mend_count lt l i n hi
  have h2 := bits_le 62 n (by omega)
  omega
theorem fix_length (lt : α → α → Bool) (l : List α) (i : Nat) (hi : i < l.length) (hn : l.length < 4611686018427387904) : (fixCalls lt l i).length ≤ 256 := mend_length lt l i _ hi hn
theorem rem_count (lt : α → α → Bool) (l : List α) (i : Nat) (hi : i < l.length) : kinds 1 (remCalls lt l i) ≤ 3 * bitsN l.length ∧ kinds 2 (remCalls lt l i) ≤ bitsN l.length + 1 := by
  unfold remCalls
  split
  · simp [kinds_nil]
  · have h1 := mend_count lt (swp l i (l.length - 1)) i (l.length - 1) (by omega)
    have h2 := bits_mono (l.length - 1) l.length (by omega)
    rw [kinds_cons, kinds_cons]
    simp
    omega
theorem rem_asks (lt : α → α → Bool) (l : List α) (i : Nat) (hi : i < l.length) (h3 : 3 ≤ l.length) (hne : l.length - 1 ≠ i) : 0 < kinds 1 (remCalls lt l i) := by
  unfold remCalls
  rw [if_neg hne, kinds_cons]
  have := mend_asks lt (swp l i (l.length - 1)) i (l.length - 1) (by omega) (by omega)
  omega
theorem rem_length (lt : α → α → Bool) (l : List α) (i : Nat) (hi : i < l.length) (hn : l.length < 4611686018427387904) : (remCalls lt l i).length ≤ 257 := by
  unfold remCalls
  split
  · simp
  · have := mend_length lt (swp l i (l.length - 1)) i (l.length - 1) (by omega) (by omega)
    simp
    omega
theorem rem_kinds (lt : α → α → Bool) (l : List α) (i : Nat) : ∀ e ∈ remCalls lt l i, e.1 = 1 ∨ e.1 = 2 := by
  intro e he
  unfold remCalls at he
  split at he
  · cases he
  · rw [List.mem_cons] at he
    rcases he with he | he
    · simp [he]
    · exact mend_kinds lt _ i _ e he
theorem kinds_other (c : Int) (h1 : c ≠ 1) (h2 : c ≠ 2) (tr : List Ev) (h : ∀ e ∈ tr, e.1 = 1 ∨ e.1 = 2) : kinds c tr = 0 := by
  unfold kinds
  rw [List.countP_eq_zero]
  intro e he
  rcases h e he with h' | h' <;> simp [h', Ne.symm h1, Ne.symm h2]
end

/-! ### The calls, made anew -/
/-- One call: the list and the items that were popped; none if it speaks of a wrong length, of an index that is not there, or pops another item than the last one. -/
def stepR (s : List (Int × Int) × List (Int × Int)) (e : Ev) : Option (List (Int × Int) × List (Int × Int)) :=
  if e.2.1 = (s.1.length : Int) then
    if e.1 = 1 then (if 0 ≤ e.2.2.1 ∧ 0 ≤ e.2.2.2 ∧ e.2.2.1 < s.1.length ∧ e.2.2.2 < s.1.length then some s else none)
    else if e.1 = 2 then (if 0 ≤ e.2.2.1 ∧ 0 ≤ e.2.2.2 ∧ e.2.2.1 < s.1.length ∧ e.2.2.2 < s.1.length then some (swp s.1 e.2.2.1.toNat e.2.2.2.toNat, s.2) else none)
    else if e.1 = 4 then (if 0 < s.1.length ∧ g s.1 (s.1.length - 1) = e.2.2 then some (s.1.dropLast, s.2 ++ [e.2.2]) else none)
    else none
  else none
def rep : List (Int × Int) × List (Int × Int) → List Ev → Option (List (Int × Int) × List (Int × Int))
  | s, [] => some s
  | s, e :: tr => (stepR s e).bind fun s' => rep s' tr

theorem rep_append (s : List (Int × Int) × List (Int × Int)) (a b : List Ev) : rep s (a ++ b) = (rep s a).bind fun s' => rep s' b := by
  induction a generalizing s with
  | nil => rfl
  | cons e a ih =>
    simp only [List.cons_append, rep]
    cases stepR s e with
    | none => rfl
    | some s' => exact ih s'

theorem stepR_less (l o : List (Int × Int)) (i j : Nat) (hi : i < l.length) (hj : j < l.length) : stepR (l, o) ((1 : Int), (l.length : Int), (i : Int), (j : Int)) = some (l, o) := by
  simp [stepR]; omega
theorem stepR_swap (l o : List (Int × Int)) (i j : Nat) (hi : i < l.length) (hj : j < l.length) : stepR (l, o) ((2 : Int), (l.length : Int), (i : Int), (j : Int)) = some (swp l i j, o) := by
  simp [stepR]; omega

theorem rep_down (lt : (Int × Int) → (Int × Int) → Bool) (n : Nat) (o : List (Int × Int)) : ∀ (k : Nat) (l : List (Int × Int)) (i : Nat), n ≤ l.length → rep (l, o) (downE lt n k l i) = some ((downF lt n k l i).1, o)
  | 0, _, _, _ => rfl
  | k + 1, l, i, hn => by
    unfold downE downF
    by_cases hc : 2 * i + 1 < n
    · rw [if_pos hc, if_pos hc]
      obtain ⟨_, h2, h3⟩ := child_cases lt l i n hc
      have e1 := stepR_less l o (2 * i + 2) (2 * i + 1)
      have e2 := stepR_less l o (child lt l i n) i (by omega) (by omega)
      have e3 := stepR_swap l o i (child lt l i n) (by omega) (by omega)
      have ih := rep_down lt n o k (swp l i (child lt l i n)) (child lt l i n) (by simpa using hn)
      rw [rep_append]
      have hfst : rep (l, o) (if 2 * i + 2 < n then [((1 : Int), (l.length : Int), (2 * i + 2 : Int), (2 * i + 1 : Int))] else []) = some (l, o) := by
        split
        · have := e1 (by omega) (by omega)
          rw [show ((2 * i + 2 : Nat) : Int) = 2 * (i : Int) + 2 by omega, show ((2 * i + 1 : Nat) : Int) = 2 * (i : Int) + 1 by omega] at this
          simp [rep, this]
        · rfl
      rw [hfst, Option.bind_some, rep, e2, Option.bind_some]
      split
      · rw [rep, e3, Option.bind_some, ih]
      · rfl
    · rw [if_neg hc, if_neg hc]; rfl
theorem rep_up (lt : (Int × Int) → (Int × Int) → Bool) (o : List (Int × Int)) : ∀ (k : Nat) (l : List (Int × Int)) (j : Nat), j < l.length → rep (l, o) (upE lt k l j) = some (upF lt k l j, o)
  | 0, _, _, _ => rfl
  | k + 1, l, j, hj => by
    unfold upE upF
    by_cases h0 : j = 0
    · rw [if_pos h0, if_pos h0]; rfl
    · rw [if_neg h0, if_neg h0]
      have e2 := stepR_less l o j ((j - 1) / 2) hj (by omega)
      have e3 := stepR_swap l o ((j - 1) / 2) j (by omega) hj
      have ih := rep_up lt o k (swp l ((j - 1) / 2) j) ((j - 1) / 2) (by simp; omega)
      rw [rep, e2, Option.bind_some]
      split
      · rw [rep, e3, Option.bind_some, ih]
      · rfl
theorem rep_mend (lt : (Int × Int) → (Int × Int) → Bool) (o l : List (Int × Int)) (i n : Nat) (hi : i < l.length) (hn : n ≤ l.length) : rep (l, o) (mendCalls lt l i n) = some (mend lt l i n, o) := by
  unfold mendCalls mend downCalls
  rw [rep_append, rep_down lt n o n l i hn, Option.bind_some]
  split
  · rfl
  · unfold upCalls up
    exact rep_up lt o _ _ i (by rw [length_downF]; exact hi)
theorem rep_fix (lt : (Int × Int) → (Int × Int) → Bool) (o l : List (Int × Int)) (i : Nat) (hi : i < l.length) : rep (l, o) (fixCalls lt l i) = some (fix lt l i, o) := rep_mend lt o l i _ hi (Nat.le_refl _)
theorem rep_rem (lt : (Int × Int) → (Int × Int) → Bool) (o l : List (Int × Int)) (i : Nat) (hi : i < l.length) :
    rep (l, o) (remCalls lt l i ++ [((4 : Int), (l.length : Int), (g l i).1, (g l i).2)]) = some ((rem lt l i).dropLast, o ++ [g l i]) := by
  have h1 : rep (l, o) (remCalls lt l i) = some (rem lt l i, o) := by
    unfold remCalls rem
    split
    · rfl
    · have e3 := stepR_swap l o i (l.length - 1) hi (by omega)
      rw [show ((l.length - 1 : Nat) : Int) = (l.length : Int) - 1 by omega] at e3
      rw [rep, e3, Option.bind_some]
      exact rep_mend lt o _ i _ (by simpa using hi) (by simp)
  rw [rep_append, h1, Option.bind_some, rep]
  have hg := g_rem lt l i hi
  have h4 : stepR (rem lt l i, o) ((4 : Int), (l.length : Int), (g l i).1, (g l i).2) = some ((rem lt l i).dropLast, o ++ [g l i]) := by
    unfold stepR
    simp only [length_rem]
    rw [if_pos trivial, if_neg (by decide), if_neg (by decide), if_pos trivial, if_pos ⟨by omega, by rw [hg]⟩]
  rw [h4]
  rfl
end Go.Proofs.Ytfmfndpeiffehaa.Hp
