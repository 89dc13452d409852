/-
  Lists of numbers: how memory holds them; append of numbers. No conditions but those that each theorem names.
-/
import Derived.Test.YtjojlnmcifkenaaBase
namespace Go.Proofs.Ytjojlnmcifkenaa
open Go.RowKit Go.Shelf
open Hp (g swp Ev)

def clsN (l : List Int) : List Value := l.map (.int .i64 ·)
theorem length_clsN (l : List Int) : (clsN l).length = l.length := by simp [clsN]
theorem clsN_append (l r : List Int) : clsN (l ++ r) = clsN l ++ clsN r := by simp [clsN]
theorem clsN_at (l : List Int) (i : Nat) (h : i < l.length) : (clsN l)[i]? = some (.int .i64 (g l i)) := by
  simp [clsN, Hp.g_lt h]
theorem clsN_set (l : List Int) (i : Nat) (x : Int) : clsN (l.set i x) = (clsN l).set i (.int .i64 x) := by simp [clsN, List.map_set]
theorem clsN_dropLast (l : List Int) : clsN l.dropLast = (clsN l).take (l.length - 1) := by
  rw [List.dropLast_eq_take]; simp [clsN]
theorem clsN_oneCell (l : List Int) : ∀ u ∈ clsN l, u.oneCell' = true := by
  intro u hu
  simp only [clsN, List.mem_map] at hu
  obtain ⟨x, _, rfl⟩ := hu
  rfl
theorem Rd.atN {w : World} {A : Option Addr} {l : List Int} (h : Rd w A (clsN l)) (k : Nat) (hk : k < l.length) :
    ∃ b o : Nat, A = some ⟨b, o, none⟩ ∧ b < w.heap.size ∧ w.cell? ⟨b, o + k, none⟩ = some (.int .i64 (g l k)) := by
  rcases h with h | ⟨b, o, h1, h2, h3⟩
  · have := length_clsN l
    rw [h] at this
    simp at this
    omega
  · exact ⟨b, o, h1, h2, h3 _ _ (clsN_at l k hk)⟩

/-- What a function that makes a new list of numbers leaves. -/
def NewInts (w : World) (l : List Int) (e : Ending) (w' : World) : Prop :=
  ∃ A c, e = .returned (.slice A l.length c) ∧ w'.ownsRow w.heap.size 3 1 (.slice A l.length c) l.length (clsN l) ∧ Below w.heap.size w w'

theorem info_int : (Try.prog.info? 3).map (fun i => (i.zero, i.size, i.bytes)) = some (some (.int .i64 0), 1, 8) := by kernel_rfl
theorem wide_fits8 {n : Nat} (h : n ≤ 26388279066624) : (n + n / 4 + 192) * 8 ≤ 281474976710656 := by omega

/-- append of one number onto an own slice, and where the new slice lies. -/
theorem run_append_int {t : TypeId} (ht : Try.prog.underlying t = some (.slice 3)) {w : World} {B : Nat} {u : Value} {l : List Int} (hown : w.ownsRow B 3 1 u l.length (clsN l)) (y : Int) (gs : Nat) (hg : w.heap[gs]? = some (.cells #[.int .i64 y] 3 (0, 0)))
    (hn : l.length + 1 ≤ 26388279066624) (hB : B ≤ w.heap.size) (ty : TypeId) :
    ∃ A' c' w', (Builtin.append_ #[t, t] ty #[u, .slice (some ⟨gs, 0, none⟩) 1 1]).run Try.prog w = .ok (.slice A' (l.length + 1) c') w' ∧ w'.ownsRow B 3 1 (.slice A' (l.length + 1) c') (l.length + 1) (clsN (l ++ [y])) ∧ w.grownBy w' u.ownBlock ∧
      ((Value.slice A' (l.length + 1) c').ownBlock = u.ownBlock ∨ (Value.slice A' (l.length + 1) c').ownBlock = some w.heap.size) := by
  obtain ⟨i0, hi, hz0, hz1, hz2⟩ := info_parts info_int
  obtain ⟨v', w', hr, h2, h3, h4⟩ := run_append_wide_at (P := Try.prog) w B t ty 3 i0 _ 1 8 ht hi hz0 hz1 hz2 rfl (by decide) u l.length (clsN l) hown
    ⟨gs, 0, none⟩ 1 1 [.int .i64 y] rfl (World.news_of_block (cs := #[.int .i64 y]) (t := 3) (fr := (0, 0)) hg) (by simp [Value.oneCell']) (by simp only [maxLen]; omega) (wide_fits8 hn) hB
  obtain ⟨A', c', rfl⟩ := own_slice h2
  exact ⟨A', c', w', hr, by rw [clsN_append]; exact h2, h3, h4⟩
theorem wpList_append_int {w : World} {ops : Array Oper} {rest : List Oper} {o : Oper} {a : Act} {Q : Exit → Act → World → Prop} (hgd : o.guard = none) (s x : Operand)
    (ho : o.op = .call { callee := .builtin .append, args := #[s, x], argTypes := #[22, 22] }) (u : Value) (B : Nat) (l : List Int) (y : Int) (gs : Nat) (hs : a.eval s = u) (hx : a.eval x = .slice (some ⟨gs, 0, none⟩) 1 1)
    (hown : w.ownsRow B 3 1 u l.length (clsN l)) (hg : w.heap[gs]? = some (.cells #[.int .i64 y] 3 (0, 0)))
    (hn : l.length + 1 ≤ 26388279066624) (hB : B ≤ w.heap.size)
    (h : ∀ A' c' w', w'.ownsRow B 3 1 (.slice A' (l.length + 1) c') (l.length + 1) (clsN (l ++ [y])) → w.grownBy w' u.ownBlock → ((Value.slice A' (l.length + 1) c').ownBlock = u.ownBlock ∨ (Value.slice A' (l.length + 1) c').ownBlock = some w.heap.size) → wpList Try.prog ops Q rest (a.put o.dst (.slice A' (l.length + 1) c')) w') : wpList Try.prog ops Q (o :: rest) a w := by
  obtain ⟨A', c', w', hr, h1, h2, h3⟩ := run_append_int Try.underlying22 hown y gs hg hn hB o.type
  exact wpList_append_run hgd s x _ ho _ _ _ _ hs hx hr (h A' c' w' h1 h2 h3)

/-- append of a whole list of numbers onto an own slice. -/
theorem run_append_ints (w : World) (B : Nat) (u : Value) (l Z : List Int) (A : Option Addr) (c : Nat) (hown : w.ownsRow B 3 1 u l.length (clsN l)) (hr : Rd w A (clsN Z)) (hn : l.length + Z.length ≤ 26388279066624) (hB : B ≤ w.heap.size) (ty : TypeId) :
    ∃ A' c' w', (Builtin.append_ #[22, 22] ty #[u, .slice A Z.length c]).run Try.prog w = .ok (.slice A' (l.length + Z.length) c') w' ∧
      w'.ownsRow B 3 1 (.slice A' (l.length + Z.length) c') (l.length + Z.length) (clsN (l ++ Z)) ∧ w.grownBy w' u.ownBlock := by
  obtain ⟨i0, hi, hz0, hz1, hz2⟩ := info_parts info_int
  by_cases h0 : Z = []
  · subst h0
    obtain ⟨A1, c1, rfl⟩ := own_slice hown
    have hlc : l.length ≤ c1 := by
      rcases hown.2 with ⟨_, e⟩ | ⟨gb, cap, cur, hv, _, _, hc, _⟩
      · omega
      · injection hv with _ _ hv3; omega
    refine ⟨A1, c1, w, ?_, by simpa using hown, World.grownBy.refl _ _⟩
    cases A with
    | none =>
      cases A1 with
      | none => simp [Builtin.append_, run_underlying Try.underlying22, sizeOf, typeInfo, hi, Builtin.lenOf, Builtin.firstCells, hlc]
      | some a1 => simp [Builtin.append_, run_underlying Try.underlying22, sizeOf, typeInfo, hi, Builtin.lenOf, Builtin.firstCells, hlc, storeCells]
    | some ad =>
      cases A1 with
      | none => simp [Builtin.append_, run_underlying Try.underlying22, sizeOf, typeInfo, hi, Builtin.lenOf, Builtin.firstCells, loadCells, loadCellsFrom, hlc]
      | some a1 => simp [Builtin.append_, run_underlying Try.underlying22, sizeOf, typeInfo, hi, Builtin.lenOf, Builtin.firstCells, loadCells, loadCellsFrom, hlc, storeCells]
  · rcases hr with h | ⟨b, o, rfl, hb, hc⟩
    · have := length_clsN Z
      rw [h] at this
      exact absurd (List.eq_nil_of_length_eq_zero (by simpa using this.symm)) h0
    · obtain ⟨v', w', hr, h2, h3, _⟩ := run_append_own_wide (P := Try.prog) w B 22 ty 3 i0 _ 1 8 Try.underlying22 hi hz0 hz1 hz2 rfl (by decide) u l.length (clsN l) hown
        ⟨b, o, none⟩ Z.length c (clsN Z) (by rw [length_clsN]; omega) (fun j u hu => by rw [add_lit]; exact hc j u hu) (clsN_oneCell Z) (by simp only [maxLen]; omega) (wide_fits8 hn) hB
      obtain ⟨A', c', rfl⟩ := own_slice h2
      exact ⟨A', c', w', hr, by rw [clsN_append]; exact h2, h3⟩
end Go.Proofs.Ytjojlnmcifkenaa
