/-
  append of steps onto a script that a law has made, within the reach of slices. Conditions: memory holds both lists.
-/
import Derived.Test.YtpjdpcpcfcohiaaSpecL
namespace Go.Proofs.Ytpjdpcpcfcohiaa
open Go.RowKit Go.Shelf
open Hp (g swp Ev St nums qOut qRest)

theorem size_drew (w : World) : w.drew.heap.size = w.heap.size := rfl
theorem fits32w {n : Nat} (h : n ≤ 6597069766656) : (n + n / 4 + 192) * 32 ≤ 281474976710656 := by omega
theorem wp_append_sts {w : World} {o : Oper} {a : Act} {K : Act → World → Prop} {Q : Exit → Act → World → Prop} (s x : Operand)
    (ho : o.op = .call { callee := .builtin .append, args := #[s, x], argTypes := #[26, 26] }) (u : Value) (B : Nat) (l Z : List St) (A : Option Addr) (c m : Nat) (hm : Z.length = m) (h0 : 0 < m) (hs : a.eval s = u) (hx : a.eval x = .slice A m c)
    (hown : w.ownsRow B 36 4 u l.length (clsT l)) (hr : Rd w A (clsT Z)) (hn : l.length + m ≤ 6597069766656) (hB : B ≤ w.heap.size)
    (h : ∀ A' c' w', w'.ownsRow B 36 4 (.slice A' (l.length + m) c') (l.length + m) (clsT (l ++ Z)) → w.grownBy w' u.ownBlock → K (a.put o.dst (.slice A' (l.length + m) c')) w') : o.wp Try.prog a w K Q := by
  subst hm
  obtain ⟨i0, hi, hz0, hz1, hz2⟩ := info_parts info_step
  rcases hr with h1 | ⟨b, o1, rfl, hb, hc⟩
  · have := length_clsT Z
    rw [h1] at this
    simp at this
    omega
  · obtain ⟨v', w', hr, h2, h3, _⟩ := run_append_own_wide (P := Try.prog) w B 26 o.type 36 i0 _ 4 32 Try.underlying26 hi hz0 hz1 hz2 rfl (by decide) u l.length (clsT l) hown
      ⟨b, o1, none⟩ Z.length c (clsT Z) (by rw [length_clsT]) (fun j u hu => by rw [add_lit]; exact hc j u hu) (clsT_oneCell Z) (by simp only [maxLen]; omega) (fits32w hn) hB
    obtain ⟨A', c', rfl⟩ := own_slice h2
    exact wp_append_run s x _ ho _ _ _ _ hs hx hr (h A' c' w' (by rw [clsT_append]; exact h2) h3)
/-- A script of one or two steps that was built just now. -/
theorem rd_built (w : World) (cs : Array Value) (Z : List St) (n : Nat) (hc : cs.toList = clsT Z) (hn : Z.length = n) (h63 : n ≤ maxLen) : Rd (w.alloc (.cells cs 36)) (some ⟨w.heap.size, 0, none⟩) (clsT Z) := by
  have h1 : cs.size = n * 4 := by rw [← Array.length_toList, hc, length_clsT, hn]
  have := own_built (w := w) (B := 0) (e := 36) (size := 4) (n := n) (cs := cs) h1 h63 (by omega)
  rw [hc] at this
  exact Rd.of_own this
end Go.Proofs.Ytpjdpcpcfcohiaa
