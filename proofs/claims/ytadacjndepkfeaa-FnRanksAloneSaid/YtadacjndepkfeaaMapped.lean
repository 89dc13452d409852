/-
  Lists whose first elements have been mapped in place; one field of an element of an own slice stored. No conditions but those that each theorem names.
-/
import Derived.Test.YtadacjndepkfeaaLawRun
import Derived.Test.YtadacjndepkfeaaPlainM
namespace Go.Proofs.Ytadacjndepkfeaa
open Go.RowKit Go.Shelf
open Hp (g swp Ev St plc)

section
variable {α : Type} [Inhabited α] (f : α → α)
/-- The first k elements mapped. -/
def mt (l : List α) (k : Nat) : List α := (l.take k).map f ++ l.drop k
omit [Inhabited α] in
theorem mt_zero (l : List α) : mt f l 0 = l := by simp [mt]
omit [Inhabited α] in
theorem mt_all (l : List α) : mt f l l.length = l.map f := by simp [mt]
omit [Inhabited α] in
theorem length_mt (l : List α) (k : Nat) : (mt f l k).length = l.length := by simp [mt]; omega
theorem g_mt (l : List α) (k : Nat) (h : k < l.length) : g (mt f l k) k = g l k := by
  have e : ((l.take k).map f).length = k := by simp; omega
  have h1 : (mt f l k)[k]? = l[k]? := by
    unfold mt
    rw [List.getElem?_append_right (by omega), e, Nat.sub_self, List.getElem?_drop, Nat.add_zero]
  simp [g, h1]
theorem mt_succ (l : List α) (k : Nat) (h : k < l.length) : (mt f l k).set k (f (g l k)) = mt f l (k + 1) := by
  unfold mt
  have e : ((l.take k).map f).length = k := by simp; omega
  rw [List.set_append_right _ _ (by omega), e, Nat.sub_self, List.drop_eq_getElem_cons h, List.set_cons_zero, take_succ_g l k h]
  simp
end

theorem set_same {l : List Value} {i : Nat} {a : Value} (h : l[i]? = some a) : l.set i a = l := by
  apply List.ext_getElem?
  intro j
  rw [List.getElem?_set]
  split
  · next e =>
    subst e
    have : i < l.length := by
      rcases Nat.lt_or_ge i l.length with h' | h'
      · exact h'
      · rw [List.getElem?_eq_none h'] at h; cases h
    rw [if_pos this, h]
  · rfl
theorem cls_set_tag (l : List It) (i : Nat) (v : Int) (h : i < l.length) : (cls l).set (i * 2 + 1) (.int .i64 v) = cls (l.set i ((g l i).1, v)) := by
  rw [cls_set l i _ h, set_same (cls_at l i h).1]
theorem cls_set_key (l : List It) (i : Nat) (v : Int) (h : i < l.length) : (cls l).set (i * 2) (.int .i64 v) = cls (l.set i (v, (g l i).2)) := by
  rw [cls_set l i _ h, List.set_comm _ _ (by omega), set_same (cls_at l i h).2]
theorem clsT_set_tag (l : List St) (i : Nat) (v : Int) (h : i < l.length) : (clsT l).set (i * 4 + 3) (.int .i64 v) = clsT (l.set i ((g l i).1, (g l i).2.1, (g l i).2.2.1, v)) := by
  obtain ⟨h0, h1, h2, h3⟩ := clsT_at l i h
  rw [clsT_set l i _ h, set_same h0, set_same h1, set_same h2]
theorem clsT_set_key (l : List St) (i : Nat) (v : Int) (h : i < l.length) : (clsT l).set (i * 4 + 2) (.int .i64 v) = clsT (l.set i ((g l i).1, (g l i).2.1, v, (g l i).2.2.2)) := by
  obtain ⟨h0, h1, h2, h3⟩ := clsT_at l i h
  rw [clsT_set l i _ h, set_same h0, set_same h1, List.set_comm _ _ (by omega), set_same h3]

section
variable {w : World} {B gb n cap i : Nat} {v : Int}
theorem own_tag {l : List It} (h : w.ownsRow B 36 2 (.slice (some ⟨gb, 0, none⟩) n cap) n (cls l)) (hi : i < l.length) (v : Int) :
    (w.setCell ⟨gb, i * 2 + 1, none⟩ (.int .i64 v)).ownsRow B 36 2 (.slice (some ⟨gb, 0, none⟩) n cap) n (cls (l.set i ((g l i).1, v))) := by
  rw [← cls_set_tag l i v hi]; exact (h.stored _ _).1
theorem own_key {l : List It} (h : w.ownsRow B 36 2 (.slice (some ⟨gb, 0, none⟩) n cap) n (cls l)) (hi : i < l.length) (v : Int) :
    (w.setCell ⟨gb, i * 2, none⟩ (.int .i64 v)).ownsRow B 36 2 (.slice (some ⟨gb, 0, none⟩) n cap) n (cls (l.set i (v, (g l i).2))) := by
  rw [← cls_set_key l i v hi]; exact (h.stored _ _).1
theorem own_tagT {l : List St} (h : w.ownsRow B 45 4 (.slice (some ⟨gb, 0, none⟩) n cap) n (clsT l)) (hi : i < l.length) (v : Int) :
    (w.setCell ⟨gb, i * 4 + 3, none⟩ (.int .i64 v)).ownsRow B 45 4 (.slice (some ⟨gb, 0, none⟩) n cap) n (clsT (l.set i ((g l i).1, (g l i).2.1, (g l i).2.2.1, v))) := by
  rw [← clsT_set_tag l i v hi]; exact (h.stored _ _).1
theorem own_keyT {l : List St} (h : w.ownsRow B 45 4 (.slice (some ⟨gb, 0, none⟩) n cap) n (clsT l)) (hi : i < l.length) (v : Int) :
    (w.setCell ⟨gb, i * 4 + 2, none⟩ (.int .i64 v)).ownsRow B 45 4 (.slice (some ⟨gb, 0, none⟩) n cap) n (clsT (l.set i ((g l i).1, (g l i).2.1, v, (g l i).2.2.2))) := by
  rw [← clsT_set_key l i v hi]; exact (h.stored _ _).1
end
/-- The address of an own slice with elements. -/
theorem own_addr {w : World} {B : Nat} {e : TypeId} {size n c : Nat} {A : Option Addr} {xs : List Value} (h : w.ownsRow B e size (.slice A n c) n xs) (hn : 0 < n) : ∃ gb, A = some ⟨gb, 0, none⟩ ∧ B ≤ gb ∧ gb < w.heap.size := by
  rcases h.2 with ⟨_, h0⟩ | ⟨gb, cap, cur, hv, _⟩
  · omega
  · have e : A = some ⟨gb, 0, none⟩ := by injection hv
    subst e
    exact ⟨gb, rfl, h.lt gb rfl⟩
end Go.Proofs.Ytadacjndepkfeaa
