/-
  impl's type items, called through heap.Interface by its address: its methods keep a list of items. Condition: memory holds the list (RI).
-/
import Derived.Test.YtadacjndepkfeaaHeap
import Derived.Test.YtadacjndepkfeaaMeth
import Derived.Deep.QuietTactic
import Derived.BigQuiet
import Derived.RegionTactic
import Derived.BigRegion
import Derived.OneCell
namespace Go.Proofs.Ytadacjndepkfeaa
open Go.RowKit Go.Shelf
open Hp (g swp Ev)

/-- An item: its key and its tag. -/
abbrev It := Int × Int
def ltK (a b : It) : Bool := decide (a.1 < b.1)
def cl (x : It) : List Value := [.int .i64 x.1, .int .i64 x.2]
def cls (l : List It) : List Value := l.flatMap cl

theorem wo_ltK : Hp.Wo ltK where
  asymm := fun a b h => by simp [ltK] at *; omega
  trans := fun a b c h1 h2 => by simp [ltK] at *; omega

theorem length_cls (l : List It) : (cls l).length = l.length * 2 := by
  induction l with
  | nil => rfl
  | cons x l ih => simp only [cls, List.flatMap_cons, List.length_append, List.length_cons] at *; simp [cl] at *; omega

theorem cls_append (l r : List It) : cls (l ++ r) = cls l ++ cls r := by simp [cls]

theorem cls_at (l : List It) (i : Nat) (h : i < l.length) : (cls l)[i * 2]? = some (.int .i64 (g l i).1) ∧ (cls l)[i * 2 + 1]? = some (.int .i64 (g l i).2) := by
  induction l generalizing i with
  | nil => simp at h
  | cons x l ih =>
    have e : cls (x :: l) = .int .i64 x.1 :: .int .i64 x.2 :: cls l := by simp [cls, cl]
    cases i with
    | zero => simp [e, g]
    | succ i =>
      have := ih i (by simpa using h)
      rw [e, show (i + 1) * 2 = i * 2 + 1 + 1 by omega, List.getElem?_cons_succ, List.getElem?_cons_succ, List.getElem?_cons_succ, List.getElem?_cons_succ]
      simpa [g] using this

theorem cls_set (l : List It) (i : Nat) (x : It) (h : i < l.length) : cls (l.set i x) = ((cls l).set (i * 2) (.int .i64 x.1)).set (i * 2 + 1) (.int .i64 x.2) := by
  induction l generalizing i with
  | nil => simp at h
  | cons y l ih =>
    have e : ∀ (z : It) (l : List It), cls (z :: l) = .int .i64 z.1 :: .int .i64 z.2 :: cls l := fun z l => by simp [cls, cl]
    cases i with
    | zero => simp [e]
    | succ i =>
      rw [List.set_cons_succ, e, e, ih i (by simpa using h), show (i + 1) * 2 = i * 2 + 1 + 1 by omega]
      simp

theorem cls_dropLast (l : List It) : cls l.dropLast = (cls l).take ((l.length - 1) * 2) := by
  induction l with
  | nil => rfl
  | cons x l ih =>
    have e : ∀ (z : It) (l : List It), cls (z :: l) = .int .i64 z.1 :: .int .i64 z.2 :: cls l := fun z l => by simp [cls, cl]
    cases l with
    | nil => simp [cls]
    | cons y l =>
      rw [List.dropLast_cons_cons, e, ih, e x, show ((x :: y :: l).length - 1) * 2 = ((y :: l).length - 1) * 2 + 1 + 1 by simp only [List.length_cons]; omega, List.take_succ_cons, List.take_succ_cons]

theorem cls_oneCell (l : List It) : ∀ u ∈ cls l, u.oneCell' = true := by
  intro u hu
  simp only [cls, List.mem_flatMap, cl] at hu
  obtain ⟨x, _, hx⟩ := hu
  simp at hx
  rcases hx with rfl | rfl <;> rfl

set_option maxHeartbeats 1000000 in
theorem items_len (w : World) (A : Option Addr) (n c : Nat) :
    Calls Try.prog 65 #[.slice A n c] w fun e w' => e = .returned (.int .i64 n) ∧ w' = w := by
  go_enter Try.func65, Try.ntmps65
  go_wp2
  go_ret
  exact ⟨rfl, rfl⟩

set_option maxHeartbeats 1000000 in
theorem items_less (w : World) (gb n c : Nat) (x y : Int) (i j : Nat) (hi : i < n) (hj : j < n) (ci : w.cell? ⟨gb, i * 2, none⟩ = some (.int .i64 x)) (cj : w.cell? ⟨gb, j * 2, none⟩ = some (.int .i64 y)) :
    Calls Try.prog 66 #[.slice (some ⟨gb, 0, none⟩) n c, .int .i64 i, .int .i64 j] w fun e w' => e = .returned (.bool (decide (x < y))) ∧ ∃ q, w' = w.drewN q := by
  go_enter Try.func66, Try.ntmps66
  go_wp2
  go_quiet (fail)
  go_wp2
  go_ret
  exact ⟨rfl, nq, rfl⟩

set_option maxHeartbeats 1000000 in
theorem items_swap_ne (w : World) (gb n c : Nat) (x y x' y' : Int) (i j : Nat) (hi : i < n) (hj : j < n) (hij : i ≠ j) (ci : w.cell? ⟨gb, i * 2, none⟩ = some (.int .i64 x)) (cj : w.cell? ⟨gb, j * 2, none⟩ = some (.int .i64 y))
    (ci' : w.cell? ⟨gb, i * 2 + 1, none⟩ = some (.int .i64 x')) (cj' : w.cell? ⟨gb, j * 2 + 1, none⟩ = some (.int .i64 y')) (hf : ∀ k, w.frozen? ⟨gb, k, none⟩ = false) :
    Calls Try.prog 67 #[.slice (some ⟨gb, 0, none⟩) n c, .int .i64 i, .int .i64 j] w fun e w' => e = .returned (.tuple #[]) ∧ ∃ q, w' = ((((w.setCell ⟨gb, i * 2, none⟩ (.int .i64 y)).setCell ⟨gb, i * 2 + 1, none⟩ (.int .i64 y')).setCell ⟨gb, j * 2, none⟩ (.int .i64 x)).setCell ⟨gb, j * 2 + 1, none⟩ (.int .i64 x')).drewN q := by
  go_enter Try.func67, Try.ntmps67
  go_wp2
  go_region
  all_goals (try go_wp2)
  all_goals go_end0
  all_goals exact ⟨rfl, 1, rfl⟩

set_option maxHeartbeats 1000000 in
theorem items_swap_eq (w : World) (gb n c : Nat) (x x' : Int) (i : Nat) (hi : i < n) (ci : w.cell? ⟨gb, i * 2, none⟩ = some (.int .i64 x))
    (ci' : w.cell? ⟨gb, i * 2 + 1, none⟩ = some (.int .i64 x')) (hf : ∀ k, w.frozen? ⟨gb, k, none⟩ = false) :
    Calls Try.prog 67 #[.slice (some ⟨gb, 0, none⟩) n c, .int .i64 i, .int .i64 i] w fun e w' => e = .returned (.tuple #[]) ∧ ∃ q, w' = ((((w.setCell ⟨gb, i * 2, none⟩ (.int .i64 x)).setCell ⟨gb, i * 2 + 1, none⟩ (.int .i64 x')).setCell ⟨gb, i * 2, none⟩ (.int .i64 x)).setCell ⟨gb, i * 2 + 1, none⟩ (.int .i64 x')).drewN q := by
  go_enter Try.func67, Try.ntmps67
  go_wp2
  go_region
  all_goals (try go_wp2)
  all_goals go_end0
  all_goals exact ⟨rfl, 1, rfl⟩

theorem ownsRow_drewN {w : World} {base : Nat} {e : TypeId} {size : Nat} {v : Value} {n : Nat} {xs : List Value} (h : w.ownsRow base e size v n xs) (q : Nat) : (w.drewN q).ownsRow base e size v n xs := h
theorem below_drewN {B : Nat} {a w : World} (h : Below B a w) (n : Nat) : Below B a (w.drewN n) := ⟨h.os, h.tape, h.output, h.size, h.block⟩

/-- A slice of items in the call's own memory, as the methods of items see it. -/
theorem items_less_own {w : World} {B : Nat} {v : Value} {l : List It} (h : w.ownsRow B 36 2 v l.length (cls l)) (i j : Nat) (hi : i < l.length) (hj : j < l.length) :
    Calls Try.prog 66 #[v, .int .i64 i, .int .i64 j] w fun e w' => e = .returned (.bool (ltK (g l i) (g l j))) ∧ ∃ q, w' = w.drewN q := by
  obtain ⟨gb, cap, rfl⟩ : ∃ gb cap, v = .slice (some ⟨gb, 0, none⟩) l.length cap := by
    rcases h.2 with ⟨_, h0⟩ | ⟨gb, cap, cur, hv, _⟩
    · omega
    · exact ⟨gb, cap, hv⟩
  exact items_less w gb l.length cap _ _ i j hi hj ((h.cellAt _ (by omega)).trans (cls_at l i hi).1) ((h.cellAt _ (by omega)).trans (cls_at l j hj).1)

theorem items_swap_own {w : World} {B : Nat} {v : Value} {l : List It} (h : w.ownsRow B 36 2 v l.length (cls l)) (i j : Nat) (hi : i < l.length) (hj : j < l.length) :
    Calls Try.prog 67 #[v, .int .i64 i, .int .i64 j] w fun e w' => e = .returned (.tuple #[]) ∧ w'.ownsRow B 36 2 v (swp l i j).length (cls (swp l i j)) ∧
      w.grownBy w' v.ownBlock := by
  obtain ⟨gb, cap, rfl⟩ : ∃ gb cap, v = .slice (some ⟨gb, 0, none⟩) l.length cap := by
    rcases h.2 with ⟨_, h0⟩ | ⟨gb, cap, cur, hv, _⟩
    · omega
    · exact ⟨gb, cap, hv⟩
  have ci := (h.cellAt _ (by omega)).trans (cls_at l i hi).1
  have ci' := (h.cellAt _ (by omega)).trans (cls_at l i hi).2
  have cj := (h.cellAt _ (by omega)).trans (cls_at l j hj).1
  have cj' := (h.cellAt _ (by omega)).trans (cls_at l j hj).2
  have hf := fun k => h.frozenAt k
  have hown := ((((h.stored (i * 2) (.int .i64 (g l j).1)).1.stored (i * 2 + 1) (.int .i64 (g l j).2)).1.stored (j * 2) (.int .i64 (g l i).1)).1.stored (j * 2 + 1) (.int .i64 (g l i).2)).1
  rw [← cls_set l i _ hi, ← cls_set _ j _ (by simpa using hj)] at hown
  have hg : ∀ (a : World) (k : Nat) (u : Value), w.grownBy a (some gb) → w.grownBy (a.setCell ⟨gb, k, none⟩ u) (some gb) := fun a k u ha =>
    ⟨ha.os, ha.tape, ha.output, by simpa [World.setCell] using ha.size, fun i hi hne => (Below.heap_setCell a ⟨gb, k, none⟩ u i (fun e => hne (by rw [e]))).trans (ha.block i hi hne)⟩
  have hgr := hg _ (j * 2 + 1) (.int .i64 (g l i).2) (hg _ (j * 2) (.int .i64 (g l i).1) (hg _ (i * 2 + 1) (.int .i64 (g l j).2) (hg _ (i * 2) (.int .i64 (g l j).1) (World.grownBy.refl w _))))
  by_cases hij : i = j
  · subst hij
    refine (items_swap_eq w gb l.length cap _ _ i hi ci ci' hf).mono ?_
    rintro e w' ⟨rfl, q, rfl⟩
    exact ⟨rfl, by rw [Hp.length_swp]; exact ownsRow_drewN hown q, ⟨hgr.os, hgr.tape, hgr.output, hgr.size, hgr.block⟩⟩
  · refine (items_swap_ne w gb l.length cap _ _ _ _ i j hi hj hij ci cj ci' cj' hf).mono ?_
    rintro e w' ⟨rfl, q, rfl⟩
    exact ⟨rfl, by rw [Hp.length_swp]; exact ownsRow_drewN hown q, ⟨hgr.os, hgr.tape, hgr.output, hgr.size, hgr.block⟩⟩

/-- The heap of items whose variable lies in block hb: what memory holds; below block B it is as w0 has it. -/
structure RI (B : Nat) (w0 : World) (hb N : Nat) (l : List It) (_tr : List Ev) (w : World) : Prop where
  own : ∃ v, w.heap[hb]? = some (.cells #[v] 52 (0, 0)) ∧ w.ownsRow B 36 2 v l.length (cls l)
  low : B ≤ hb
  below : Below B w0 w
  size : l.length ≤ N
  few : N < 4611686018427387904

theorem own_ne {w : World} {g0 : Nat} {t e : TypeId} {B size n : Nat} {v : Value} {xs : List Value} {cs : Array Value} {fr : Nat × Nat} (h : w.ownsRow B e size v n xs) (hg : w.heap[g0]? = some (.cells cs t fr)) (hne : e ≠ t) : v.ownBlock ≠ some g0 := by
  rcases h.2 with ⟨rfl, _⟩ | ⟨g', cap, cur, rfl, _, hh, _⟩
  · simp [Value.ownBlock]
  · intro he
    have : g' = g0 := by simpa [Value.ownBlock] using he
    subst this
    rw [hh] at hg
    injection hg with hg
    injection hg with _ ht
    exact hne ht

theorem own_slice {w : World} {B : Nat} {e : TypeId} {size : Nat} {v : Value} {n : Nat} {xs : List Value} (h : w.ownsRow B e size v n xs) : ∃ A c, v = .slice A n c := by
  rcases h.2 with ⟨rfl, rfl⟩ | ⟨gb, cap, cur, hv, _⟩
  · exact ⟨none, 0, rfl⟩
  · exact ⟨_, cap, hv⟩

theorem mthLen : (Try.prog.info? 54).bind (fun i => (i.methods.find? (·.name == "Len")).map (fun m => (m.path, m.func))) = some (#[], some (65, false)) := by kernel_rfl
theorem mthLess : (Try.prog.info? 54).bind (fun i => (i.methods.find? (·.name == "Less")).map (fun m => (m.path, m.func))) = some (#[], some (66, false)) := by kernel_rfl
theorem mthSwap : (Try.prog.info? 54).bind (fun i => (i.methods.find? (·.name == "Swap")).map (fun m => (m.path, m.func))) = some (#[], some (67, false)) := by kernel_rfl

theorem RI.grown {B : Nat} {w0 : World} {hb N : Nat} {l : List It} {tr : List Ev} {w : World} (h : RI B w0 hb N l tr w) {w' : World} {l' : List It} {tr' : List Ev} (v : Value) (hv : w.heap[hb]? = some (.cells #[v] 52 (0, 0)))
    (hl : l'.length ≤ N) (ho : w.ownsRow B 36 2 v l.length (cls l)) (ho' : w'.ownsRow B 36 2 v l'.length (cls l')) (hg : w.grownBy w' v.ownBlock) : RI B w0 hb N l' tr' w' := by
  have hne := own_ne ho hv (by decide)
  refine ⟨⟨v, ?_, ho'⟩, h.low, ?_, hl, h.few⟩
  · rw [hg.block hb (lt_of_block hv) (Ne.symm hne)]; exact hv
  · exact h.below.grown hg (Nat.le_trans h.low (Nat.le_of_lt (lt_of_block hv))) (fun k hk => (ho.lt k hk).1)

theorem items_HI (B : Nat) (w0 : World) (hb N : Nat) {M : Nat} : HI 54 (.pointer (some ⟨hb, 0, none⟩)) ltK M (RI B w0 hb N) where
  small := fun l tr w h => Nat.lt_of_le_of_lt h.size h.few
  len := fun l tr w h => by
    obtain ⟨v, hv, ho⟩ := h.own
    obtain ⟨A, c, rfl⟩ := own_slice ho
    refine ⟨65, _, run_method_ptr_val _ mthLen Try.underlying54 (run_loadVar_slice Try.underlying52 (cell_of_one hv)), enters_of Try.func65 (by kernel_rfl) rfl, (items_len w A _ c).mono ?_⟩
    rintro e w' ⟨rfl, rfl⟩
    exact ⟨rfl, h⟩
  less := fun l tr w i j h hi hj _ => by
    obtain ⟨v, hv, ho⟩ := h.own
    have hcl := items_less_own ho i j hi hj
    obtain ⟨A, c, rfl⟩ := own_slice ho
    refine ⟨66, _, run_method_ptr_val _ mthLess Try.underlying54 (run_loadVar_slice Try.underlying52 (cell_of_one hv)), enters_of Try.func66 (by kernel_rfl) rfl, hcl.mono ?_⟩
    rintro e w' ⟨rfl, q, rfl⟩
    exact ⟨rfl, ⟨⟨_, hv, ownsRow_drewN ho q⟩, h.low, below_drewN h.below q, h.size, h.few⟩⟩
  swap := fun l tr w i j h hi hj _ => by
    obtain ⟨v, hv, ho⟩ := h.own
    have hcl := items_swap_own ho i j hi hj
    obtain ⟨A, c, rfl⟩ := own_slice ho
    refine ⟨67, _, run_method_ptr_val _ mthSwap Try.underlying54 (run_loadVar_slice Try.underlying52 (cell_of_one hv)), enters_of Try.func67 (by kernel_rfl) rfl, hcl.mono ?_⟩
    rintro e w' ⟨rfl, ho', hg⟩
    exact ⟨rfl, h.grown _ hv (by rw [Hp.length_swp]; exact h.size) ho ho' hg⟩
end Go.Proofs.Ytadacjndepkfeaa
