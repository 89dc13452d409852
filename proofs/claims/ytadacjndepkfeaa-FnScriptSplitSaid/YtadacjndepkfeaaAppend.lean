/-
  append of a whole list of items onto an own slice; operations under a guard. No conditions but those that each theorem names.
-/
import Derived.Test.YtadacjndepkfeaaWith
import Derived.Test.YtadacjndepkfeaaFrame
namespace Go.Proofs.Ytadacjndepkfeaa
open Go.RowKit Go.Shelf
open Hp (g swp Ev)

theorem wanted_g {ops : Array Oper} {o : Oper} {a : Act} {X E : Prop} (hw : Region.wanted o (yielded ops a.tmps) = true) (h : X) : if Region.wanted o (yielded ops a.tmps) = true then X else E := by
  rw [if_pos hw]
  exact h

theorem run_append_its (w : World) (B : Nat) (u : Value) (l Z : List It) (A : Option Addr) (c : Nat) (hown : w.ownsRow B 36 2 u l.length (cls l)) (hr : Rd w A (cls Z)) (hn : (l.length + Z.length) * 16 ≤ 211106232598528) (hB : B ≤ w.heap.size) (ty : TypeId) :
    ∃ A' c' w', (Builtin.append_ #[25, 25] ty #[u, .slice A Z.length c]).run Try.prog w = .ok (.slice A' (l.length + Z.length) c') w' ∧
      w'.ownsRow B 36 2 (.slice A' (l.length + Z.length) c') (l.length + Z.length) (cls (l ++ Z)) ∧ w.grownBy w' u.ownBlock := by
  obtain ⟨i0, hi, hz0, hz1, hz2⟩ := info_parts info_item
  by_cases h0 : Z = []
  · subst h0
    obtain ⟨A1, c1, rfl⟩ := own_slice hown
    have hlc : l.length ≤ c1 := by
      rcases hown.2 with ⟨_, e⟩ | ⟨gb, cap, cur, hv, _, _, hc, _⟩
      · omega
      · injection hv with _ _ hv3; omega
    refine ⟨A1, c1, w, ?_, by simpa using hown, World.grownBy.refl _ _⟩
    cases A with
    | none =>
      cases A1 with
      | none => simp [Builtin.append_, run_underlying Try.underlying25, sizeOf, typeInfo, hi, Builtin.lenOf, Builtin.firstCells, hlc]
      | some a1 => simp [Builtin.append_, run_underlying Try.underlying25, sizeOf, typeInfo, hi, Builtin.lenOf, Builtin.firstCells, hlc, storeCells]
    | some ad =>
      cases A1 with
      | none => simp [Builtin.append_, run_underlying Try.underlying25, sizeOf, typeInfo, hi, Builtin.lenOf, Builtin.firstCells, loadCells, loadCellsFrom, hlc]
      | some a1 => simp [Builtin.append_, run_underlying Try.underlying25, sizeOf, typeInfo, hi, Builtin.lenOf, Builtin.firstCells, loadCells, loadCellsFrom, hlc, storeCells]
  · rcases hr with h | ⟨b, o, rfl, hb, hc⟩
    · have := length_cls Z
      rw [h] at this
      exact absurd (List.eq_nil_of_length_eq_zero (by simp at this; omega)) h0
    · obtain ⟨v', w', hr, h2, h3, _⟩ := run_append_own_wide (P := Try.prog) w B 25 ty 36 i0 _ 2 16 Try.underlying25 hi hz0 hz1 hz2 rfl (by decide) u l.length (cls l) hown
        ⟨b, o, none⟩ Z.length c (cls Z) (length_cls Z) (fun j u hu => by rw [add_lit]; exact hc j u hu) (cls_oneCell Z) (by simp only [maxLen]; omega) (wide_fits16 hn) hB
      obtain ⟨A', c', rfl⟩ := own_slice h2
      exact ⟨A', c', w', hr, by rw [cls_append]; exact h2, h3⟩

theorem wp_append_its {w : World} {o : Oper} {a : Act} {K : Act → World → Prop} {Q : Exit → Act → World → Prop} (s x : Operand)
    (ho : o.op = .call { callee := .builtin .append, args := #[s, x], argTypes := #[25, 25] }) (B : Nat) (u : Value) (l Z : List It) (A : Option Addr) (c : Nat) (hs : a.eval s = u) (hx : a.eval x = .slice A Z.length c)
    (hown : w.ownsRow B 36 2 u l.length (cls l)) (hr : Rd w A (cls Z)) (hn : (l.length + Z.length) * 16 ≤ 211106232598528) (hB : B ≤ w.heap.size)
    (h : ∀ A' c' w', w'.ownsRow B 36 2 (.slice A' (l.length + Z.length) c') (l.length + Z.length) (cls (l ++ Z)) → w.grownBy w' u.ownBlock → K (a.put o.dst (.slice A' (l.length + Z.length) c')) w') : o.wp Try.prog a w K Q := by
  obtain ⟨A', c', w', hrun, h1, h2⟩ := run_append_its w B u l Z A c hown hr hn hB o.type
  exact wp_append_run s x _ ho _ _ _ _ hs hx hrun (h A' c' w' h1 h2)
end Go.Proofs.Ytadacjndepkfeaa
