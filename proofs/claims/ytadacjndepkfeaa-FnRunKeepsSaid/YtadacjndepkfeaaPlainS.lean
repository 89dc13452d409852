/-
  Scripts over a list of items, plain: what each step makes of the list, the lists that a script goes through, what it returns. No program stands here. No conditions but those that each theorem names.
-/
import Derived.Test.YtadacjndepkfeaaPlainP
namespace Go.Proofs.Ytadacjndepkfeaa.Hp

/-- A step of a script: its kind, its index, its key and its tag. -/
abbrev St := Int × Int × Int × Int
/-- The index of an element of n that a number speaks of. -/
def plc (k : Int) (n : Nat) : Nat := (k % (n : Int)).toNat

theorem plc_lt (k : Int) {n : Nat} (h : 0 < n) : plc k n < n := by
  have h1 := Int.emod_nonneg k (show (n : Int) ≠ 0 by omega)
  have h2 := Int.emod_lt_of_pos k (show (0 : Int) < n by omega)
  unfold plc
  omega
theorem plc_cast (k : Int) {n : Nat} (h : 0 < n) : ((plc k n : Nat) : Int) = k % (n : Int) := by
  have h1 := Int.emod_nonneg k (show (n : Int) ≠ 0 by omega)
  unfold plc
  omega
theorem plc_tmod (k : Int) {n : Nat} (h : 0 < n) : (k.tmod n + n).tmod n = ((plc k n : Nat) : Int) := by
  rw [plc_cast k h]
  have h1 := Int.tmod_lt_of_pos k (show (0 : Int) < n by omega)
  have h2 := Int.lt_tmod_of_pos k (show (0 : Int) < n by omega)
  rw [Int.tmod_eq_emod_of_nonneg (by omega)]
  rw [Int.add_emod_right]
  have h3 := Int.mul_tdiv_add_tmod k n
  have h4 : k.tmod n = k + n * (-(k.tdiv n)) := by rw [Int.mul_neg]; omega
  rw [h4, Int.add_mul_emod_self_left]

section
variable {α : Type} [Inhabited α] (lt : α → α → Bool) (mk : Int → Int → α)

/-- One step: the list behind it, and what it returns. -/
def stp (s : St) (l : List α) : List α × List α :=
  if s.1 = 5 then (init lt l, [])
  else if s.1 = 1 then (push lt l (mk s.2.2.1 s.2.2.2), [])
  else if l.length = 0 then (l, [])
  else if s.1 = 2 then ((popD lt l).dropLast, [g l 0])
  else if s.1 = 3 then ((rem lt l (plc s.2.1 l.length)).dropLast, [g l (plc s.2.1 l.length)])
  else if s.1 = 4 then (fix lt (l.set (plc s.2.1 l.length) (mk s.2.2.1 s.2.2.2)) (plc s.2.1 l.length), [])
  else (l, [])

/-- The list behind a script. -/
def after : List α → List St → List α
  | l, [] => l
  | l, s :: ss => after (stp lt mk s l).1 ss
/-- The lists that a script goes through. -/
def sts : List α → List St → List (List α)
  | l, [] => [l]
  | l, s :: ss => l :: sts (stp lt mk s l).1 ss
/-- What a script returns. -/
def outs : List α → List St → List α
  | _, [] => []
  | l, s :: ss => (stp lt mk s l).2 ++ outs (stp lt mk s l).1 ss

theorem after_append (a b : List St) (l : List α) : after lt mk l (a ++ b) = after lt mk (after lt mk l a) b := by
  induction a generalizing l with
  | nil => rfl
  | cons s a ih => exact ih _
theorem after_snoc (ss : List St) (s : St) (l : List α) : after lt mk l (ss ++ [s]) = (stp lt mk s (after lt mk l ss)).1 := by
  rw [after_append]; rfl
theorem outs_append (a b : List St) (l : List α) : outs lt mk l (a ++ b) = outs lt mk l a ++ outs lt mk (after lt mk l a) b := by
  induction a generalizing l with
  | nil => rfl
  | cons s a ih => rw [List.cons_append, outs, ih, outs, List.append_assoc]; rfl
theorem outs_snoc (ss : List St) (s : St) (l : List α) : outs lt mk l (ss ++ [s]) = outs lt mk l ss ++ (stp lt mk s (after lt mk l ss)).2 := by
  rw [outs_append]; simp [outs]
theorem length_sts (ss : List St) (l : List α) : (sts lt mk l ss).length = ss.length + 1 := by
  induction ss generalizing l with
  | nil => rfl
  | cons s ss ih => simp [sts, ih]
theorem sts_snoc (ss : List St) (s : St) (l : List α) : sts lt mk l (ss ++ [s]) = sts lt mk l ss ++ [after lt mk l (ss ++ [s])] := by
  induction ss generalizing l with
  | nil => rfl
  | cons s' ss ih => rw [List.cons_append, sts, ih, sts]; rfl
theorem sts_append (a b : List St) (l : List α) : sts lt mk l (a ++ b) = (sts lt mk l a).take a.length ++ sts lt mk (after lt mk l a) b := by
  induction a generalizing l with
  | nil => simp [after]
  | cons s a ih => rw [List.cons_append, sts, ih, sts]; simp [after]
theorem g_sts (ss : List St) (l : List α) (k : Nat) (hk : k ≤ ss.length) : g (sts lt mk l ss) k = after lt mk l (ss.take k) := by
  induction ss generalizing l k with
  | nil => have : k = 0 := by simpa using hk
           subst this; rfl
  | cons s ss ih =>
    cases k with
    | zero => rfl
    | succ k =>
      have := ih (stp lt mk s l).1 k (by simpa using hk)
      simpa [sts, g, after] using this
theorem take_succ_st (ss : List St) (k : Nat) (h : k < ss.length) : ss.take (k + 1) = ss.take k ++ [g ss k] := by
  rw [List.take_succ_eq_append_getElem h, g_eq h]
theorem after_succ (ss : List St) (l : List α) (k : Nat) (h : k < ss.length) : after lt mk l (ss.take (k + 1)) = (stp lt mk (g ss k) (after lt mk l (ss.take k))).1 := by
  rw [take_succ_st ss k h, after_snoc]
theorem outs_succ (ss : List St) (l : List α) (k : Nat) (h : k < ss.length) : outs lt mk l (ss.take (k + 1)) = outs lt mk l (ss.take k) ++ (stp lt mk (g ss k) (after lt mk l (ss.take k))).2 := by
  rw [take_succ_st ss k h, outs_snoc]
theorem sts_succ (ss : List St) (l : List α) (k : Nat) (h : k < ss.length) : sts lt mk l (ss.take (k + 1)) = sts lt mk l (ss.take k) ++ [after lt mk l (ss.take (k + 1))] := by
  rw [take_succ_st ss k h, sts_snoc]

/-! ### Lengths -/
theorem stp_length (s : St) (l : List α) : (stp lt mk s l).1.length ≤ l.length + 1 ∧ (stp lt mk s l).2.length ≤ 1 := by
  unfold stp
  repeat' split
  all_goals simp
  all_goals omega
theorem after_length (ss : List St) (l : List α) : (after lt mk l ss).length ≤ l.length + ss.length := by
  induction ss generalizing l with
  | nil => simp [after]
  | cons s ss ih =>
    have h1 := ih (stp lt mk s l).1
    have h2 := (stp_length lt mk s l).1
    simp only [after, List.length_cons]
    omega
theorem outs_length (ss : List St) (l : List α) : (outs lt mk l ss).length ≤ ss.length := by
  induction ss generalizing l with
  | nil => simp [outs]
  | cons s ss ih =>
    have h1 := ih (stp lt mk s l).1
    have h2 := (stp_length lt mk s l).2
    simp only [outs, List.length_append, List.length_cons]
    omega

/-! ### Heap order -/
theorem stp_HO (hw : Wo lt) (s : St) (l : List α) (h : HO lt l l.length) : HO lt (stp lt mk s l).1 (stp lt mk s l).1.length := by
  unfold stp
  split
  · simpa using init_HO hw l
  split
  · simpa using push_HO hw l _ h
  split
  · exact h
  next h0 =>
  split
  · exact popD_HO_drop hw l (by omega) h
  split
  · exact rem_HO_drop hw l _ (plc_lt _ (by omega)) h
  split
  · simpa using fix_HO hw l _ (plc_lt _ (by omega)) h _
  · exact h
theorem after_HO (hw : Wo lt) (ss : List St) (l : List α) (h : HO lt l l.length) : HO lt (after lt mk l ss) (after lt mk l ss).length := by
  induction ss generalizing l with
  | nil => exact h
  | cons s ss ih => exact ih _ (stp_HO lt mk hw s l h)
end
end Go.Proofs.Ytadacjndepkfeaa.Hp
