/-
  Lists whose first elements have been mapped in place; the kind of a step of an own slice stored. No conditions but those that each theorem names.
-/
import Derived.Test.YtjojlnmcifkenaaSteps
namespace Go.Proofs.Ytjojlnmcifkenaa
open Go.RowKit Go.Shelf
open Hp (g swp Ev St plc)

section
variable {α : Type} [Inhabited α] (f : α → α)
/-- The first k elements mapped. -/
def mt (l : List α) (k : Nat) : List α := (l.take k).map f ++ l.drop k
omit [Inhabited α] in
theorem mt_zero (l : List α) : mt f l 0 = l := by simp [mt]
omit [Inhabited α] in
theorem mt_all (l : List α) : mt f l l.length = l.map f := by simp [mt]
omit [Inhabited α] in
theorem length_mt (l : List α) (k : Nat) : (mt f l k).length = l.length := by simp [mt]; omega
theorem g_mt (l : List α) (k : Nat) (h : k < l.length) : g (mt f l k) k = g l k := by
  have e : ((l.take k).map f).length = k := by simp; omega
  have h1 : (mt f l k)[k]? = l[k]? := by
    unfold mt
    rw [List.getElem?_append_right (by omega), e, Nat.sub_self, List.getElem?_drop, Nat.add_zero]
  simp [g, h1]
theorem mt_succ (l : List α) (k : Nat) (h : k < l.length) : (mt f l k).set k (f (g l k)) = mt f l (k + 1) := by
  unfold mt
  have e : ((l.take k).map f).length = k := by simp; omega
  rw [List.set_append_right _ _ (by omega), e, Nat.sub_self, List.drop_eq_getElem_cons h, List.set_cons_zero, take_succ_g l k h]
  simp
end

theorem clsT_set_kind (l : List St) (i : Nat) (v : Int) (h : i < l.length) : (clsT l).set (i * 4) (.int .i64 v) = clsT (l.set i (v, (g l i).2.1, (g l i).2.2.1, (g l i).2.2.2)) := by
  obtain ⟨_, h1, h2, h3⟩ := clsT_at l i h
  have k1 : ((clsT l).set (i * 4) (.int .i64 v))[i * 4 + 1]? = some (.int .i64 (g l i).2.1) := by rw [List.getElem?_set_ne (by omega)]; exact h1
  have k2 : ((clsT l).set (i * 4) (.int .i64 v))[i * 4 + 2]? = some (.int .i64 (g l i).2.2.1) := by rw [List.getElem?_set_ne (by omega)]; exact h2
  have k3 : ((clsT l).set (i * 4) (.int .i64 v))[i * 4 + 3]? = some (.int .i64 (g l i).2.2.2) := by rw [List.getElem?_set_ne (by omega)]; exact h3
  rw [clsT_set l i _ h, set_same k1, set_same k2, set_same k3]
theorem own_kindT {w : World} {B gb n cap i : Nat} {l : List St} (h : w.ownsRow B 36 4 (.slice (some ⟨gb, 0, none⟩) n cap) n (clsT l)) (hi : i < l.length) (v : Int) :
    (w.setCell ⟨gb, i * 4, none⟩ (.int .i64 v)).ownsRow B 36 4 (.slice (some ⟨gb, 0, none⟩) n cap) n (clsT (l.set i (v, (g l i).2.1, (g l i).2.2.1, (g l i).2.2.2))) := by
  rw [← clsT_set_kind l i v hi]; exact (h.stored _ _).1
end Go.Proofs.Ytjojlnmcifkenaa
