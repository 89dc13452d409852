/-
  Plain lists: what container/heap's down, up, Fix, Remove, Init, Push and Pop make of a list, the calls of Less and Swap that they make, and that heap order and the elements are kept. No program stands here. No conditions.
-/
namespace Go.Proofs.Ytadacjndepkfeaa.Hp
/-- A strict weak order. -/
structure Wo {β : Type} (lt : β → β → Bool) : Prop where
  asymm : ∀ a b, lt a b = true → lt b a = false
  trans : ∀ a b c, lt b a = false → lt c b = false → lt c a = false

theorem irr {β : Type} {lt : β → β → Bool} (hw : Wo lt) (a : β) : lt a a = false := by
  cases h : lt a a with
  | false => rfl
  | true => rw [hw.asymm a a h] at h; cases h

section
variable {α : Type} [Inhabited α]

/-- The element with an index. -/
def g (l : List α) (i : Nat) : α := (l[i]?).getD default

theorem g_lt {l : List α} {i : Nat} (h : i < l.length) : l[i]? = some (g l i) := by
  simp [g, h]

theorem g_eq {l : List α} {i : Nat} (h : i < l.length) : l[i] = g l i := by
  simp [g, h]

theorem g_append_left {l r : List α} {i : Nat} (h : i < l.length) : g (l ++ r) i = g l i := by
  simp [g, List.getElem?_append_left h]

theorem g_append_last (l : List α) (x : α) : g (l ++ [x]) l.length = x := by
  simp [g]

theorem g_dropLast {l : List α} {i : Nat} (h : i + 1 < l.length) : g l.dropLast i = g l i := by
  have e : l.dropLast[i]? = l[i]? := by
    rw [List.getElem?_dropLast, if_pos (by omega)]
  simp [g, e]

theorem ext_g {l r : List α} (h : l.length = r.length) (hg : ∀ i, i < l.length → g l i = g r i) : l = r := by
  apply List.ext_getElem h
  intro i h1 h2
  rw [g_eq h1, g_eq h2]
  exact hg i h1

/-- Two elements exchanged. -/
def swp (l : List α) (i j : Nat) : List α := (l.set i (g l j)).set j (g l i)

@[simp] theorem length_swp (l : List α) (i j : Nat) : (swp l i j).length = l.length := by simp [swp]

theorem g_set {l : List α} {i : Nat} (x : α) (k : Nat) (h : i < l.length) : g (l.set i x) k = if k = i then x else g l k := by
  simp only [g, List.getElem?_set]
  by_cases hk : i = k
  · subst hk; simp [h]
  · simp [hk, Ne.symm hk]

theorem g_swp {l : List α} {i j : Nat} (hi : i < l.length) (hj : j < l.length) (k : Nat) : g (swp l i j) k = if k = j then g l i else if k = i then g l j else g l k := by
  unfold swp
  rw [g_set _ _ (by simpa using hj), g_set _ _ hi]

theorem count_set [BEq α] [LawfulBEq α] {l : List α} {i : Nat} (h : i < l.length) (x a : α) : (l.set i x).count a + (if g l i == a then 1 else 0) = l.count a + (if x == a then 1 else 0) := by
  induction l generalizing i with
  | nil => simp at h
  | cons y l ih =>
    cases i with
    | zero =>
      have e : g (y :: l) 0 = y := rfl
      rw [e, List.set_cons_zero, List.count_cons, List.count_cons]
      omega
    | succ i =>
      have := ih (i := i) (by simpa using h)
      simp only [List.set_cons_succ, List.count_cons]
      have e : g (y :: l) (i + 1) = g l i := by simp [g]
      rw [e]
      omega

theorem perm_swp {l : List α} {i j : Nat} (hi : i < l.length) (hj : j < l.length) : (swp l i j).Perm l := by
  classical
  letI : BEq α := instBEqOfDecidableEq
  rw [List.perm_iff_count]
  intro a
  have h1 := count_set hi (g l j) a
  have h2 := count_set (l := l.set i (g l j)) (i := j) (by simpa using hj) (g l i) a
  have h3 : g (l.set i (g l j)) j = g l j := by
    rw [g_set _ _ hi]; split <;> rfl
  rw [h3] at h2
  unfold swp
  omega

theorem swp_self {l : List α} {i : Nat} (hi : i < l.length) : swp l i i = l := by
  apply ext_g (by simp)
  intro k _
  rw [g_swp hi hi]
  by_cases h : k = i <;> simp [h]

/-! ### What the library's functions make of a list -/

/-- The child that down holds against its parent. -/
def child (lt : α → α → Bool) (l : List α) (i n : Nat) : Nat :=
  if 2 * i + 2 < n then (if lt (g l (2 * i + 2)) (g l (2 * i + 1)) then 2 * i + 2 else 2 * i + 1) else 2 * i + 1

/-- down: the list and the last index, by steps that are left. -/
def downF (lt : α → α → Bool) (n : Nat) : Nat → List α → Nat → List α × Nat
  | 0, l, i => (l, i)
  | k + 1, l, i =>
    if 2 * i + 1 < n then
      (if lt (g l (child lt l i n)) (g l i) then downF lt n k (swp l i (child lt l i n)) (child lt l i n) else (l, i))
    else (l, i)

/-- An entry of the list of calls: the kind, the length, the two numbers. -/
abbrev Ev := Int × Int × Int × Int

/-- The calls of Less and Swap that down makes. -/
def downE (lt : α → α → Bool) (n : Nat) : Nat → List α → Nat → List Ev
  | 0, _, _ => []
  | k + 1, l, i =>
    if 2 * i + 1 < n then
      (if 2 * i + 2 < n then [((1 : Int), (l.length : Int), (2 * i + 2 : Int), (2 * i + 1 : Int))] else []) ++
      (((1 : Int), (l.length : Int), (child lt l i n : Int), (i : Int)) ::
        (if lt (g l (child lt l i n)) (g l i) then ((2 : Int), (l.length : Int), (i : Int), (child lt l i n : Int)) :: downE lt n k (swp l i (child lt l i n)) (child lt l i n) else []))
    else []

def down (lt : α → α → Bool) (l : List α) (i n : Nat) : List α × Nat := downF lt n n l i
def downCalls (lt : α → α → Bool) (l : List α) (i n : Nat) : List Ev := downE lt n n l i

/-- up, by steps that are left. -/
def upF (lt : α → α → Bool) : Nat → List α → Nat → List α
  | 0, l, _ => l
  | k + 1, l, j => if j = 0 then l else if lt (g l j) (g l ((j - 1) / 2)) then upF lt k (swp l ((j - 1) / 2) j) ((j - 1) / 2) else l

def upE (lt : α → α → Bool) : Nat → List α → Nat → List Ev
  | 0, _, _ => []
  | k + 1, l, j =>
    if j = 0 then [] else
      ((1 : Int), (l.length : Int), (j : Int), (((j - 1) / 2 : Nat) : Int)) ::
      (if lt (g l j) (g l ((j - 1) / 2)) then ((2 : Int), (l.length : Int), (((j - 1) / 2 : Nat) : Int), (j : Int)) :: upE lt k (swp l ((j - 1) / 2) j) ((j - 1) / 2) else [])

def up (lt : α → α → Bool) (l : List α) (j : Nat) : List α := upF lt (j + 1) l j
def upCalls (lt : α → α → Bool) (l : List α) (j : Nat) : List Ev := upE lt (j + 1) l j

/-- down, and up if down has moved nothing: over the first n elements. -/
def mend (lt : α → α → Bool) (l : List α) (i n : Nat) : List α :=
  if i < (down lt l i n).2 then (down lt l i n).1 else up lt (down lt l i n).1 i
def mendCalls (lt : α → α → Bool) (l : List α) (i n : Nat) : List Ev :=
  downCalls lt l i n ++ (if i < (down lt l i n).2 then [] else upCalls lt (down lt l i n).1 i)

def fix (lt : α → α → Bool) (l : List α) (i : Nat) : List α := mend lt l i l.length
def fixCalls (lt : α → α → Bool) (l : List α) (i : Nat) : List Ev := mendCalls lt l i l.length

/-- Remove, ahead of the call of the method Pop. -/
def rem (lt : α → α → Bool) (l : List α) (i : Nat) : List α :=
  if l.length - 1 = i then l else mend lt (swp l i (l.length - 1)) i (l.length - 1)
def remCalls (lt : α → α → Bool) (l : List α) (i : Nat) : List Ev :=
  if l.length - 1 = i then [] else ((2 : Int), (l.length : Int), (i : Int), (l.length : Int) - 1) :: mendCalls lt (swp l i (l.length - 1)) i (l.length - 1)

/-- Pop, ahead of the call of the method Pop. -/
def popD (lt : α → α → Bool) (l : List α) : List α := (down lt (swp l 0 (l.length - 1)) 0 (l.length - 1)).1
def popCalls (lt : α → α → Bool) (l : List α) : List Ev :=
  ((2 : Int), (l.length : Int), (0 : Int), (l.length : Int) - 1) :: downCalls lt (swp l 0 (l.length - 1)) 0 (l.length - 1)

def initF (lt : α → α → Bool) (n : Nat) : Nat → List α → List α
  | 0, l => l
  | k + 1, l => initF lt n k (down lt l k n).1
def initE (lt : α → α → Bool) (n : Nat) : Nat → List α → List Ev
  | 0, _ => []
  | k + 1, l => downCalls lt l k n ++ initE lt n k (down lt l k n).1
def init (lt : α → α → Bool) (l : List α) : List α := initF lt l.length (l.length / 2) l
def initCalls (lt : α → α → Bool) (l : List α) : List Ev := initE lt l.length (l.length / 2) l

def push (lt : α → α → Bool) (l : List α) (x : α) : List α := up lt (l ++ [x]) l.length

/-! ### Lengths and elements -/
theorem child_cases (lt : α → α → Bool) (l : List α) (i n : Nat) (h : 2 * i + 1 < n) :
    (child lt l i n = 2 * i + 1 ∨ child lt l i n = 2 * i + 2) ∧ child lt l i n < n ∧ i < child lt l i n := by
  unfold child
  split
  · split <;> omega
  · omega

@[simp] theorem length_downF (lt : α → α → Bool) (n : Nat) : ∀ (k : Nat) (l : List α) (i : Nat), (downF lt n k l i).1.length = l.length
  | 0, _, _ => rfl
  | k + 1, l, i => by
    unfold downF
    split
    · split
      · rw [length_downF lt n k]; simp
      · rfl
    · rfl

@[simp] theorem length_down (lt : α → α → Bool) (l : List α) (i n : Nat) : (down lt l i n).1.length = l.length := length_downF lt n n l i

@[simp] theorem length_upF (lt : α → α → Bool) : ∀ (k : Nat) (l : List α) (j : Nat), (upF lt k l j).length = l.length
  | 0, _, _ => rfl
  | k + 1, l, j => by
    unfold upF
    split
    · rfl
    · split
      · rw [length_upF lt k]; simp
      · rfl

@[simp] theorem length_up (lt : α → α → Bool) (l : List α) (j : Nat) : (up lt l j).length = l.length := length_upF lt (j + 1) l j

@[simp] theorem length_mend (lt : α → α → Bool) (l : List α) (i n : Nat) : (mend lt l i n).length = l.length := by
  unfold mend; split <;> simp
@[simp] theorem length_fix (lt : α → α → Bool) (l : List α) (i : Nat) : (fix lt l i).length = l.length := length_mend lt l i _
@[simp] theorem length_rem (lt : α → α → Bool) (l : List α) (i : Nat) : (rem lt l i).length = l.length := by
  unfold rem; split <;> simp
@[simp] theorem length_popD (lt : α → α → Bool) (l : List α) : (popD lt l).length = l.length := by simp [popD]
@[simp] theorem length_initF (lt : α → α → Bool) (n : Nat) : ∀ (k : Nat) (l : List α), (initF lt n k l).length = l.length
  | 0, _ => rfl
  | k + 1, l => by unfold initF; rw [length_initF lt n k]; simp
@[simp] theorem length_init (lt : α → α → Bool) (l : List α) : (init lt l).length = l.length := length_initF lt _ _ l
@[simp] theorem length_push (lt : α → α → Bool) (l : List α) (x : α) : (push lt l x).length = l.length + 1 := by simp [push]

theorem perm_downF (lt : α → α → Bool) (n : Nat) : ∀ (k : Nat) (l : List α) (i : Nat), n ≤ l.length → (downF lt n k l i).1.Perm l
  | 0, _, _, _ => List.Perm.refl _
  | k + 1, l, i, hn => by
    unfold downF
    split
    · next h =>
      obtain ⟨_, h2, h3⟩ := child_cases lt l i n h
      split
      · exact (perm_downF lt n k _ _ (by simpa using hn)).trans (perm_swp (by omega) (by omega))
      · exact List.Perm.refl _
    · exact List.Perm.refl _

theorem perm_down (lt : α → α → Bool) (l : List α) (i n : Nat) (hn : n ≤ l.length) : (down lt l i n).1.Perm l := perm_downF lt n n l i hn

theorem perm_upF (lt : α → α → Bool) : ∀ (k : Nat) (l : List α) (j : Nat), j < l.length → (upF lt k l j).Perm l
  | 0, _, _, _ => List.Perm.refl _
  | k + 1, l, j, hj => by
    unfold upF
    split
    · exact List.Perm.refl _
    · split
      · exact (perm_upF lt k _ _ (by simp; omega)).trans (perm_swp (by omega) hj)
      · exact List.Perm.refl _

theorem perm_up (lt : α → α → Bool) (l : List α) (j : Nat) (hj : j < l.length) : (up lt l j).Perm l := perm_upF lt _ l j hj

theorem perm_mend (lt : α → α → Bool) (l : List α) (i n : Nat) (hi : i < l.length) (hn : n ≤ l.length) : (mend lt l i n).Perm l := by
  unfold mend
  split
  · exact perm_down lt l i n hn
  · exact (perm_up lt _ i (by simpa using hi)).trans (perm_down lt l i n hn)

theorem perm_fix (lt : α → α → Bool) (l : List α) (i : Nat) (hi : i < l.length) : (fix lt l i).Perm l := perm_mend lt l i _ hi (Nat.le_refl _)

theorem perm_rem (lt : α → α → Bool) (l : List α) (i : Nat) (hi : i < l.length) : (rem lt l i).Perm l := by
  unfold rem
  split
  · exact List.Perm.refl _
  · exact (perm_mend lt _ i _ (by simpa using hi) (by simp)).trans (perm_swp hi (by omega))

theorem perm_popD (lt : α → α → Bool) (l : List α) (h : 0 < l.length) : (popD lt l).Perm l :=
  (perm_down lt _ 0 _ (by simp)).trans (perm_swp h (by omega))

theorem perm_initF (lt : α → α → Bool) (n : Nat) : ∀ (k : Nat) (l : List α), n ≤ l.length → (initF lt n k l).Perm l
  | 0, _, _ => List.Perm.refl _
  | k + 1, l, hn => (perm_initF lt n k _ (by simpa using hn)).trans (perm_down lt l k n hn)
theorem perm_init (lt : α → α → Bool) (l : List α) : (init lt l).Perm l := perm_initF lt _ _ l (Nat.le_refl _)
theorem perm_push (lt : α → α → Bool) (l : List α) (x : α) : (push lt l x).Perm (l ++ [x]) := perm_up lt _ _ (by simp)

/-- What stands from n on stays. -/
theorem g_downF (lt : α → α → Bool) (n : Nat) : ∀ (k : Nat) (l : List α) (i : Nat), n ≤ l.length → ∀ m, n ≤ m → g (downF lt n k l i).1 m = g l m
  | 0, _, _, _, _, _ => rfl
  | k + 1, l, i, hn, m, hm => by
    unfold downF
    split
    · next h =>
      obtain ⟨_, h2, h3⟩ := child_cases lt l i n h
      split
      · rw [g_downF lt n k _ _ (by simpa using hn) m hm, g_swp (by omega) (by omega), if_neg (by omega), if_neg (by omega)]
      · rfl
    · rfl

theorem g_upF (lt : α → α → Bool) : ∀ (k : Nat) (l : List α) (j : Nat), j < l.length → ∀ m, j < m → g (upF lt k l j) m = g l m
  | 0, _, _, _, _, _ => rfl
  | k + 1, l, j, hj, m, hm => by
    unfold upF
    split
    · rfl
    · split
      · rw [g_upF lt k _ _ (by simp; omega) m (by omega), g_swp (by omega) hj, if_neg (by omega), if_neg (by omega)]
      · rfl

theorem g_mend (lt : α → α → Bool) (l : List α) (i n : Nat) (hi : i < n) (hn : n ≤ l.length) (m : Nat) (hm : n ≤ m) : g (mend lt l i n) m = g l m := by
  unfold mend
  split
  · exact g_downF lt n n l i hn m hm
  · rw [up, g_upF lt _ _ i (by simp; omega) m (by omega)]
    exact g_downF lt n n l i hn m hm

/-- The element that Remove returns. -/
theorem g_rem (lt : α → α → Bool) (l : List α) (i : Nat) (hi : i < l.length) : g (rem lt l i) (l.length - 1) = g l i := by
  unfold rem
  split
  · next h => rw [h]
  · next h =>
    rw [g_mend lt _ i _ (by omega) (by simp) _ (Nat.le_refl _), g_swp hi (by omega), if_pos rfl]

theorem g_popD (lt : α → α → Bool) (l : List α) (h : 0 < l.length) : g (popD lt l) (l.length - 1) = g l 0 := by
  unfold popD down
  rw [g_downF lt _ _ _ 0 (by simp) _ (Nat.le_refl _), g_swp h (by omega), if_pos rfl]

/-! ### Heap order -/
/-- No element below n is before the one above it. -/
def HO (lt : α → α → Bool) (l : List α) (n : Nat) : Prop := ∀ j, 0 < j → j < n → lt (g l j) (g l ((j - 1) / 2)) = false

/-- ahead of down at i: from the parents lo on. -/
structure QD (lt : α → α → Bool) (l : List α) (n lo i : Nat) : Prop where
  ok : ∀ j, 0 < j → j < n → lo ≤ (j - 1) / 2 → (j - 1) / 2 ≠ i → j ≠ i → lt (g l j) (g l ((j - 1) / 2)) = false
  far : ∀ c, 0 < i → lo ≤ (i - 1) / 2 → (c = 2 * i + 1 ∨ c = 2 * i + 2) → c < n → lt (g l c) (g l ((i - 1) / 2)) = false

def HOfrom (lt : α → α → Bool) (l : List α) (n lo : Nat) : Prop := ∀ j, 0 < j → j < n → lo ≤ (j - 1) / 2 → lt (g l j) (g l ((j - 1) / 2)) = false

theorem least_child {lt : α → α → Bool} (hw : Wo lt) (l : List α) (i n : Nat) (_h : 2 * i + 1 < n) (c : Nat) (hc : c = 2 * i + 1 ∨ c = 2 * i + 2) (hcn : c < n) :
    lt (g l c) (g l (child lt l i n)) = false := by
  unfold child
  rcases hc with rfl | rfl
  · split
    · split
      · next h2 => exact hw.asymm _ _ h2
      · exact irr hw _
    · exact irr hw _
  · rw [if_pos hcn]
    split
    · exact irr hw _
    · next h2 => simpa using h2

/-- One exchange of down. -/
theorem QD.step {lt : α → α → Bool} (hw : Wo lt) {l : List α} {n lo i : Nat} (hn : n ≤ l.length) (hlo : lo ≤ i) (h : QD lt l n lo i) (hc : 2 * i + 1 < n)
    (hl : lt (g l (child lt l i n)) (g l i) = true) :
    QD lt (swp l i (child lt l i n)) n lo (child lt l i n) ∧
      lt (g (swp l i (child lt l i n)) (child lt l i n)) (g (swp l i (child lt l i n)) ((child lt l i n - 1) / 2)) = false := by
  obtain ⟨hcc, hcn, hic⟩ := child_cases lt l i n hc
  have hleast := least_child hw l i n hc
  generalize hj : child lt l i n = j at *
  have hpj : (j - 1) / 2 = i := by omega
  have gs : ∀ k, g (swp l i j) k = if k = j then g l i else if k = i then g l j else g l k := g_swp (by omega) (by omega)
  refine ⟨⟨?_, ?_⟩, ?_⟩
  · intro k hk0 hkn hlok hpk hkj
    rw [gs k, gs ((k - 1) / 2), if_neg hkj, if_neg hpk]
    by_cases hki : k = i
    · subst hki
      rw [if_pos rfl, if_neg (by omega)]
      exact h.far j hk0 hlok (by omega) hcn
    · rw [if_neg hki]
      by_cases hpi : (k - 1) / 2 = i
      · rw [if_pos hpi]
        exact hleast k (by omega) hkn
      · rw [if_neg hpi]
        exact h.ok k hk0 hkn hlok hpi hki
  · intro c _ _ hcj hcn2
    rw [hpj, gs c, gs i, if_neg (by omega), if_neg (by omega), if_neg (by omega), if_pos rfl]
    have e : (c - 1) / 2 = j := by omega
    have := h.ok c (by omega) hcn2 (by omega) (by omega) (by omega)
    rwa [e] at this
  · rw [hpj, gs j, gs i, if_pos rfl, if_neg (by omega), if_pos rfl]
    exact hw.asymm _ _ hl

/-- down, where the element at i stands right against the one above it. -/
theorem down_from {lt : α → α → Bool} (hw : Wo lt) (n lo : Nat) : ∀ (k : Nat) (l : List α) (i : Nat), n ≤ l.length → lo ≤ i → n ≤ i + k → QD lt l n lo i →
    (0 < i → lo ≤ (i - 1) / 2 → lt (g l i) (g l ((i - 1) / 2)) = false) → HOfrom lt (downF lt n k l i).1 n lo
  | 0, l, i, hn, hlo, hk, h, hi => by
    intro j hj hjn hp
    by_cases hji : j = i
    · subst hji; exact hi hj hp
    · by_cases hpi : (j - 1) / 2 = i
      · omega
      · exact h.ok j hj hjn hp hpi hji
  | k + 1, l, i, hn, hlo, hk, h, hi => by
    unfold downF
    by_cases hc : 2 * i + 1 < n
    · rw [if_pos hc]
      obtain ⟨hcc, hcn, hic⟩ := child_cases lt l i n hc
      by_cases hl : lt (g l (child lt l i n)) (g l i) = true
      · rw [if_pos hl]
        obtain ⟨h1, h2⟩ := h.step hw hn hlo hc hl
        exact down_from hw n lo k _ _ (by simpa using hn) (by omega) (by omega) h1 (fun _ _ => h2)
      · rw [if_neg hl]
        intro j hj hjn hp
        by_cases hji : j = i
        · subst hji; exact hi hj hp
        · by_cases hpi : (j - 1) / 2 = i
          · have h1 := least_child hw l i n hc j (by omega) hjn
            rw [hpi]
            exact hw.trans _ _ _ (by simpa using hl) h1
          · exact h.ok j hj hjn hp hpi hji
    · rw [if_neg hc]
      intro j hj hjn hp
      by_cases hji : j = i
      · subst hji; exact hi hj hp
      · by_cases hpi : (j - 1) / 2 = i
        · omega
        · exact h.ok j hj hjn hp hpi hji

/-- ahead of up at j. -/
structure QU (lt : α → α → Bool) (l : List α) (n j : Nat) : Prop where
  ok : ∀ k, 0 < k → k < n → k ≠ j → lt (g l k) (g l ((k - 1) / 2)) = false
  far : ∀ c, 0 < j → (c = 2 * j + 1 ∨ c = 2 * j + 2) → c < n → lt (g l c) (g l ((j - 1) / 2)) = false

theorem up_HO {lt : α → α → Bool} (hw : Wo lt) (n : Nat) : ∀ (k : Nat) (l : List α) (j : Nat), n ≤ l.length → j < n → j < k → QU lt l n j → HO lt (upF lt k l j) n
  | 0, _, j, _, _, hk, _ => absurd hk (by omega)
  | k + 1, l, j, hn, hj, hk, h => by
    unfold upF
    by_cases h0 : j = 0
    · rw [if_pos h0]
      intro m hm hmn
      exact h.ok m hm hmn (by omega)
    · rw [if_neg h0]
      by_cases hl : lt (g l j) (g l ((j - 1) / 2)) = true
      · rw [if_pos hl]
        generalize hi : (j - 1) / 2 = i at *
        have gs : ∀ k, g (swp l i j) k = if k = j then g l i else if k = i then g l j else g l k := g_swp (by omega) (by omega)
        refine up_HO hw n k _ i (by simpa using hn) (by omega) (by omega) ⟨?_, ?_⟩
        · intro m hm hmn hmi
          rw [gs m, gs ((m - 1) / 2)]
          by_cases hmj : m = j
          · subst hmj
            rw [if_pos rfl, hi, if_neg (by omega), if_pos rfl]
            exact hw.asymm _ _ hl
          · rw [if_neg hmj, if_neg hmi]
            by_cases hpj : (m - 1) / 2 = j
            · rw [if_pos hpj]
              have h1 := h.far m (by omega) (by omega) hmn
              rwa [hi] at h1
            · rw [if_neg hpj]
              by_cases hpi : (m - 1) / 2 = i
              · rw [if_pos hpi]
                have h1 := h.ok m hm hmn hmj
                rw [hpi] at h1
                exact hw.trans _ _ _ (hw.asymm _ _ hl) h1
              · rw [if_neg hpi]
                exact h.ok m hm hmn hmj
        · intro c hi0 hc hcn
          rw [gs c, gs ((i - 1) / 2), if_neg (show ¬ (i - 1) / 2 = j by omega), if_neg (show ¬ (i - 1) / 2 = i by omega)]
          have hii := h.ok i hi0 (by omega) (by omega)
          by_cases hcj : c = j
          · rw [if_pos hcj]; exact hii
          · rw [if_neg hcj, if_neg (by omega)]
            have h1 := h.ok c (by omega) hcn hcj
            rw [show (c - 1) / 2 = i by omega] at h1
            exact hw.trans _ _ _ hii h1
      · rw [if_neg hl]
        intro m hm hmn
        by_cases hmj : m = j
        · subst hmj; simpa using hl
        · exact h.ok m hm hmn hmj

theorem downF_moved (lt : α → α → Bool) (n : Nat) : ∀ (k : Nat) (l : List α) (i : Nat), i ≤ (downF lt n k l i).2
  | 0, _, _ => Nat.le_refl _
  | k + 1, l, i => by
    unfold downF
    split
    · next h =>
      obtain ⟨_, _, h3⟩ := child_cases lt l i n h
      split
      · exact Nat.le_trans (by omega) (downF_moved lt n k _ _)
      · exact Nat.le_refl _
    · exact Nat.le_refl _

/-- mend: whatever the element at i, if all else is right. -/
theorem mend_HO {lt : α → α → Bool} (hw : Wo lt) (l : List α) (i n : Nat) (hn : n ≤ l.length) (hi : i < n) (h : QD lt l n 0 i) : HO lt (mend lt l i n) n := by
  unfold mend down
  obtain ⟨k, rfl⟩ : ∃ k, n = k + 1 := ⟨n - 1, by omega⟩
  generalize hN : k + 1 = n at *
  have ek : downF lt n n l i = downF lt n (k + 1) l i := by rw [hN]
  rw [ek]
  unfold downF
  by_cases hc : 2 * i + 1 < n
  · rw [if_pos hc]
    obtain ⟨hcc, hcn, hic⟩ := child_cases lt l i n hc
    by_cases hl : lt (g l (child lt l i n)) (g l i) = true
    · rw [if_pos hl]
      have hm := downF_moved lt n k (swp l i (child lt l i n)) (child lt l i n)
      rw [if_pos (by omega)]
      obtain ⟨h1, h2⟩ := h.step hw hn (Nat.zero_le _) hc hl
      have := down_from hw n 0 k _ _ (by simpa using hn) (Nat.zero_le _) (by omega) h1 (fun _ _ => h2)
      exact fun j hj hjn => this j hj hjn (Nat.zero_le _)
    · rw [if_neg hl, if_neg (by simp)]
      refine up_HO hw n _ l i hn hi (by omega) ⟨?_, fun c h0 hcc hcn => h.far c h0 (Nat.zero_le _) hcc hcn⟩
      intro m hm hmn hmi
      by_cases hp : (m - 1) / 2 = i
      · rw [hp]
        exact hw.trans _ _ _ (by simpa using hl) (least_child hw l i n hc m (by omega) hmn)
      · exact h.ok m hm hmn (Nat.zero_le _) hp hmi
  · rw [if_neg hc, if_neg (by simp)]
    refine up_HO hw n _ l i hn hi (by omega) ⟨?_, fun c h0 hcc hcn => h.far c h0 (Nat.zero_le _) hcc hcn⟩
    intro m hm hmn hmi
    exact h.ok m hm hmn (Nat.zero_le _) (by omega) hmi

theorem HO.set {lt : α → α → Bool} (hw : Wo lt) {l : List α} {n i : Nat} (hi : i < l.length) (h : HO lt l n) (x : α) : QD lt (l.set i x) n 0 i := by
  refine ⟨?_, ?_⟩
  · intro j hj hjn _ hp hji
    rw [g_set _ _ hi, g_set _ _ hi, if_neg hji, if_neg hp]
    exact h j hj hjn
  · intro c h0 _ hc hcn
    rw [g_set _ _ hi, g_set _ _ hi, if_neg (by omega), if_neg (by omega)]
    have h1 := h c (by omega) hcn
    rw [show (c - 1) / 2 = i by omega] at h1
    exact hw.trans _ _ _ (h i h0 (by omega)) h1

theorem fix_HO {lt : α → α → Bool} (hw : Wo lt) (l : List α) (i : Nat) (hi : i < l.length) (h : HO lt l l.length) (x : α) : HO lt (fix lt (l.set i x) i) l.length := by
  have := mend_HO hw (l.set i x) i (l.set i x).length (Nat.le_refl _) (by simpa using hi) (by simpa using h.set hw hi x)
  simpa [fix] using this

theorem rem_HO {lt : α → α → Bool} (hw : Wo lt) (l : List α) (i : Nat) (hi : i < l.length) (h : HO lt l l.length) : HO lt (rem lt l i) (l.length - 1) := by
  unfold rem
  split
  · exact fun j hj hjn => h j hj (by omega)
  · next hne =>
    have hq : QD lt (swp l i (l.length - 1)) (l.length - 1) 0 i := by
      have hs := (show HO lt l (l.length - 1) from fun j hj hjn => h j hj (by omega)).set hw hi (g l (l.length - 1))
      have e : ∀ k, k < l.length - 1 → g (swp l i (l.length - 1)) k = g (l.set i (g l (l.length - 1))) k := by
        intro k hk
        rw [g_swp hi (by omega), g_set _ _ hi, if_neg (by omega)]
      refine ⟨?_, ?_⟩
      · intro j hj hjn hp hpi hji
        rw [e _ hjn, e _ (by omega)]
        exact hs.ok j hj hjn hp hpi hji
      · intro c h0 hp hc hcn
        rw [e _ hcn, e _ (by omega)]
        exact hs.far c h0 hp hc hcn
    exact mend_HO hw _ i _ (by simp) (by omega) hq

theorem popD_HO {lt : α → α → Bool} (hw : Wo lt) (l : List α) (h : HO lt l l.length) : HO lt (popD lt l) (l.length - 1) := by
  by_cases h2 : l.length ≤ 1
  · intro j hj hjn
    omega
  · have hq : QD lt (swp l 0 (l.length - 1)) (l.length - 1) 0 0 := by
      refine ⟨?_, fun c h0 => absurd h0 (by omega)⟩
      intro j hj hjn _ hp hji
      rw [g_swp (by omega) (by omega), g_swp (by omega) (by omega), if_neg (by omega), if_neg hji, if_neg (by omega), if_neg hp]
      exact h j hj (by omega)
    have := down_from hw (l.length - 1) 0 (l.length - 1) _ 0 (by simp) (Nat.le_refl _) (by omega) hq (fun h0 => absurd h0 (by omega))
    exact fun j hj hjn => this j hj hjn (Nat.zero_le _)

theorem initF_HO {lt : α → α → Bool} (hw : Wo lt) (n : Nat) : ∀ (k : Nat) (l : List α), n ≤ l.length → HOfrom lt l n k → HO lt (initF lt n k l) n
  | 0, l, _, h => fun j hj hjn => h j hj hjn (Nat.zero_le _)
  | k + 1, l, hn, h => by
    unfold initF
    refine initF_HO hw n k _ (by simpa using hn) ?_
    refine down_from hw n k n l k hn (Nat.le_refl _) (by omega) ⟨?_, ?_⟩ ?_
    · intro j hj hjn hp hpk _
      exact h j hj hjn (by omega)
    · intro c h0 hp
      omega
    · intro h0 hp
      omega

theorem init_HO {lt : α → α → Bool} (hw : Wo lt) (l : List α) : HO lt (init lt l) l.length :=
  initF_HO hw _ _ l (Nat.le_refl _) fun j _ hjn hp => absurd hp (by omega)

theorem push_HO {lt : α → α → Bool} (hw : Wo lt) (l : List α) (x : α) (h : HO lt l l.length) : HO lt (push lt l x) (l.length + 1) := by
  refine up_HO hw (l.length + 1) _ _ _ (by simp) (by omega) (by omega) ⟨?_, ?_⟩
  · intro k hk hkn hkj
    rw [g_append_left (by omega), g_append_left (by omega)]
    exact h k hk (by omega)
  · intro c _ hc hcn
    omega

/-- The first element is the least. -/
theorem HO.least {lt : α → α → Bool} (hw : Wo lt) {l : List α} {n : Nat} (h : HO lt l n) : ∀ j, j < n → lt (g l j) (g l 0) = false := by
  intro j
  induction j using Nat.strongRecOn with
  | ind j ih =>
    intro hj
    by_cases h0 : j = 0
    · subst h0; exact irr hw _
    · exact hw.trans _ _ _ (ih ((j - 1) / 2) (by omega) (by omega)) (h j (by omega) hj)

/-! ### Fuel -/
theorem downF_fuel (lt : α → α → Bool) (n : Nat) : ∀ (k m : Nat) (l : List α) (i : Nat), n ≤ i + k → n ≤ i + m → downF lt n k l i = downF lt n m l i
  | 0, 0, _, _, _, _ => rfl
  | 0, m + 1, l, i, h, _ => by
    unfold downF
    rw [if_neg (by omega)]
  | k + 1, 0, l, i, _, h => by
    unfold downF
    rw [if_neg (by omega)]
  | k + 1, m + 1, l, i, h1, h2 => by
    unfold downF
    by_cases hc : 2 * i + 1 < n
    · obtain ⟨_, _, h3⟩ := child_cases lt l i n hc
      rw [if_pos hc, if_pos hc, downF_fuel lt n k m _ _ (by omega) (by omega)]
    · rw [if_neg hc, if_neg hc]
theorem downE_fuel (lt : α → α → Bool) (n : Nat) : ∀ (k m : Nat) (l : List α) (i : Nat), n ≤ i + k → n ≤ i + m → downE lt n k l i = downE lt n m l i
  | 0, 0, _, _, _, _ => rfl
  | 0, m + 1, l, i, h, _ => by
    unfold downE
    rw [if_neg (by omega)]
  | k + 1, 0, l, i, _, h => by
    unfold downE
    rw [if_neg (by omega)]
  | k + 1, m + 1, l, i, h1, h2 => by
    unfold downE
    by_cases hc : 2 * i + 1 < n
    · obtain ⟨_, _, h3⟩ := child_cases lt l i n hc
      rw [if_pos hc, if_pos hc, downE_fuel lt n k m _ _ (by omega) (by omega)]
    · rw [if_neg hc, if_neg hc]
end
end Go.Proofs.Ytadacjndepkfeaa.Hp
