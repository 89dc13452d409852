/-
  The helper functions of the laws that make lists of items: what they return. Condition: memory holds the lists that they are handed, within the reach of a slice.
-/
import Derived.Test.YtadacjndepkfeaaItems
import Derived.Deep.AppendLies
import Derived.Maps.AppendAt
import Derived.Deep.DeepAppendWide
namespace Go.Proofs.Ytadacjndepkfeaa
open Go.RowKit Go.Shelf
open Hp (g swp Ev)

theorem heap_size_alloc (w : World) (o : Obj) : (w.alloc o).heap.size = w.heap.size + 1 := by simp
theorem own_base {w : World} {B B' : Nat} {e : TypeId} {size : Nat} {v : Value} {n : Nat} {xs : List Value} (h : w.ownsRow B e size v n xs) (hB : B' ≤ B) : w.ownsRow B' e size v n xs := by
  refine ⟨h.1, ?_⟩
  rcases h.2 with h2 | ⟨gb, cap, cur, hv, hb, r⟩
  · exact .inl h2
  · exact .inr ⟨gb, cap, cur, hv, Nat.le_trans hB hb, r⟩

theorem wide_fits16 {n : Nat} (h : n * 16 ≤ 211106232598528) : (n + n / 4 + 192) * 16 ≤ 281474976710656 := by omega

/-- A slice with the address A reads as these cells. -/
def Rd (w : World) (A : Option Addr) (xs : List Value) : Prop := xs = [] ∨ ∃ b o : Nat, A = some ⟨b, o, none⟩ ∧ b < w.heap.size ∧ ∀ j u, xs[j]? = some u → w.cell? ⟨b, o + j, none⟩ = some u

theorem add_lit (b o j : Nat) : (⟨b, o, none⟩ : Addr).add j = ⟨b, o + j, none⟩ := by
  unfold Addr.add
  split <;> simp_all

theorem Rd.below {w w' : World} {A : Option Addr} {xs : List Value} {B : Nat} (h : Rd w A xs) (hb : Below B w w') (hB : w.heap.size ≤ B) : Rd w' A xs := by
  rcases h with h | ⟨b, o, h1, h2, h3⟩
  · exact .inl h
  · exact .inr ⟨b, o, h1, Nat.lt_of_lt_of_le h2 hb.size, fun j u hu => (hb.cell (p := ⟨b, o + j, none⟩) (Nat.lt_of_lt_of_le h2 hB)).trans (h3 j u hu)⟩
theorem Rd.at_ {w : World} {A : Option Addr} {l : List It} (h : Rd w A (cls l)) (k : Nat) (hk : k < l.length) :
    ∃ b o : Nat, A = some ⟨b, o, none⟩ ∧ b < w.heap.size ∧ w.cell? ⟨b, o + k * 2, none⟩ = some (.int .i64 (g l k).1) ∧ w.cell? ⟨b, o + k * 2 + 1, none⟩ = some (.int .i64 (g l k).2) := by
  rcases h with h | ⟨b, o, h1, h2, h3⟩
  · have := length_cls l
    rw [h] at this
    simp at this
    omega
  · exact ⟨b, o, h1, h2, h3 _ _ (cls_at l k hk).1, by rw [Nat.add_assoc]; exact h3 _ _ (cls_at l k hk).2⟩
theorem Rd.of_own {w : World} {B : Nat} {e : TypeId} {A : Option Addr} {n c : Nat} {xs : List Value} {size : Nat} (h : w.ownsRow B e size (.slice A n c) n xs) : Rd w A xs := by
  rcases h.2 with ⟨hv, h0⟩ | ⟨gb, cap, cur, hv, hb, hh, _⟩
  · left
    apply List.eq_nil_of_length_eq_zero
    rw [h.1, h0, Nat.zero_mul]
  · right
    have hA : A = some ⟨gb, 0, none⟩ := by injection hv
    subst hA
    exact ⟨gb, 0, rfl, (Array.getElem?_eq_some_iff.1 hh).1, fun j u hu => by rw [← add_lit]; exact h.cells (g := gb) rfl j u hu⟩

/-- What a function that makes a new list of items leaves. -/
def NewIts (w : World) (l : List It) (e : Ending) (w' : World) : Prop :=
  ∃ A c, e = .returned (.slice A l.length c) ∧ w'.ownsRow w.heap.size 36 2 (.slice A l.length c) l.length (cls l) ∧ Below w.heap.size w w'

theorem info_item : (Try.prog.info? 36).map (fun i => (i.zero, i.size, i.bytes)) = some (some (.agg #[.int .i64 0, .int .i64 0]), 2, 16) := by kernel_rfl

theorem take_succ_g {α : Type} [Inhabited α] (l : List α) (k : Nat) (h : k < l.length) : l.take (k + 1) = l.take k ++ [g l k] := by
  rw [List.take_succ_eq_append_getElem h, Hp.g_eq h]

theorem its_step {w1 : World} {l : List It} {k : Nat} {v1 : Value} {B : Nat} (hk : k < l.length)
    (ho : w1.ownsRow B 36 2 v1 (k + 1) (cls (l.take k) ++ [.int .i64 (g l k).1, .int .i64 (g l k).2])) :
    ∃ A c, v1 = .slice A (k + 1) c ∧ w1.ownsRow B 36 2 (.slice A (k + 1) c) (k + 1) (cls (l.take (k + 1))) := by
  obtain ⟨A, c, rfl⟩ := own_slice ho
  refine ⟨A, c, rfl, ?_⟩
  rw [take_succ_g l k hk, cls_append]
  exact ho

set_option maxHeartbeats 1000000 in
set_option maxRecDepth 100000 in
theorem toItems_any (w : World) (A : Option Addr) (n c : Nat) (l : List It) (hl : n = l.length) (hr : Rd w A (cls l)) (hn : l.length * 16 ≤ 211106232598528) :
    Calls Try.prog 16 #[.slice A n c] w (NewIts w l) := by
  subst hl
  obtain ⟨i0, hi, hz0, hz1, hz2⟩ := info_parts info_item
  go_enter Try.func16, Try.ntmps16
  go_wp2
  go_loopw [3, 8] (fun s3 s8 wr => ∃ (k : Nat) (A' : Option Addr) (c' : Nat), s8 = .int .i64 (k : Int) ∧ k ≤ l.length ∧ s3 = .slice A' k c' ∧ Aside (wr.ownsRow w.heap.size 36 2 (.slice A' k c') k (cls (l.take k))) ∧ Below w.heap.size w wr)
    (fun _ s8 _ => l.length - (intOf s8).toNat)
  case atStart => exact ⟨0, none, 0, rfl, by omega, rfl, World.ownsRow_nil _ _ _ _, Below.refl _ _⟩
  case round =>
    obtain ⟨k, A', c', rfl, hk, rfl, hown, hb⟩ := hrel
    have hsz := hb.size
    by_cases hlt : k < l.length
    · obtain ⟨b, o, rfl, hbb, h1, h2⟩ := (hr.below hb (Nat.le_refl _)).at_ k hlt
      clear hr
      obtain ⟨x, hx⟩ : ∃ x, (g l k).1 = x := ⟨_, rfl⟩
      obtain ⟨y, hy⟩ : ∃ y, (g l k).2 = y := ⟨_, rfl⟩
      rw [hx] at h1
      rw [hy] at h2
      have HX := Lib.hid hx
      have HY := Lib.hid hy
      clear hx hy
      go_wp2_with (at_builtin; refine wpList_append_own_wide _ rfl _ _ 25 rfl w.heap.size 36 i0 _ 2 16 Try.underlying25 hi hz0 hz1 hz2 rfl (by decide) _ k (cls (l.take k)) rfl ((hown.out.alloc _).alloc _) ⟨wr.heap.size + 1, 0, none⟩ 1 1 [.int .i64 x, .int .i64 y] rfl rfl ?c1 ?c2 ?c3 ?c4 ?c5 ?_)
      case c1 => exact World.news_of_block (cs := #[.int .i64 x, .int .i64 y]) (t := 36) (fr := (0, 0)) (by simpa using heap_alloc_new (wr.alloc _) _)
      case c2 => simp [Value.oneCell']
      case c3 => simp only [maxLen]; omega
      case c4 => omega
      case c5 => simp; omega
      intro v1 w1 ho1 hg1 _
      rw [← HX.out, ← HY.out] at ho1
      obtain ⟨A1, c1, rfl, ho2⟩ := its_step hlt ho1
      have hb1 : Below w.heap.size w w1 := by
        refine ((hb.alloc hsz _).alloc (by simp; omega) _).grown hg1 (by simp; omega) (fun kk hkk => (hown.out.lt kk hkk).1)
      have H2 : Aside (w1.ownsRow w.heap.size 36 2 (.slice A1 (k + 1) c1) (k + 1) (cls (l.take (k + 1)))) := ho2
      clear ho1 hg1 ho2 hown hb h1 h2
      go_wp2
      go_roundw
      case rel => exact ⟨k + 1, A1, c1, by go_num, by omega, rfl, H2, hb1⟩
      case measure => simp [intOf]; omega
    · go_wp2
      go_ret
      have hkl : k = l.length := by omega
      have ho := hown.out
      rw [hkl, List.take_of_length_le (Nat.le_refl _)] at ho
      exact ⟨A', c', by rw [hkl]; rfl, ho, hb⟩

/-- append, by an equation on its run. -/
theorem wp_append_run {P : Program} {w : World} {o : Oper} {a : Act} {K : Act → World → Prop} {Q : Exit → Act → World → Prop} (s x : Operand) (t : TypeId)
    (ho : o.op = .call { callee := .builtin .append, args := #[s, x], argTypes := #[t, t] }) (v1 v2 v' : Value) (w' : World) (hs : a.eval s = v1) (hx : a.eval x = v2)
    (hrun : (Builtin.append_ #[t, t] o.type #[v1, v2]).run P w = .ok v' w') (h : K (a.put o.dst v') w') : o.wp P a w K Q := by
  unfold Oper.wp execOp
  simp only [ho, resolve, invoke, builtin, Sem.run_bind, Sem.run_pure, Result.andThen_ok, List.map_toArray, List.map_cons, List.map_nil, hs, hx, hrun]
  exact h
theorem wpList_append_run {P : Program} {w : World} {ops : Array Oper} {rest : List Oper} {o : Oper} {a : Act} {Q : Exit → Act → World → Prop} (hgd : o.guard = none) (s x : Operand) (t : TypeId)
    (ho : o.op = .call { callee := .builtin .append, args := #[s, x], argTypes := #[t, t] }) (v1 v2 v' : Value) (w' : World) (hs : a.eval s = v1) (hx : a.eval x = v2)
    (hrun : (Builtin.append_ #[t, t] o.type #[v1, v2]).run P w = .ok v' w') (h : wpList P ops Q rest (a.put o.dst v') w') : wpList P ops Q (o :: rest) a w :=
  wpList_plain hgd fun _ hK => wp_append_run s x t ho v1 v2 v' w' hs hx hrun (hK _ _ h)
theorem step_append_run {P : Program} {w : World} {ops : Array Oper} {o : Oper} {a : Act} {K : Act → World → Prop} {Q : Exit → Act → World → Prop} {E : Prop} (hgd : o.guard = none) (s x : Operand) (t : TypeId)
    (ho : o.op = .call { callee := .builtin .append, args := #[s, x], argTypes := #[t, t] }) (v1 v2 v' : Value) (w' : World) (hs : a.eval s = v1) (hx : a.eval x = v2)
    (hrun : (Builtin.append_ #[t, t] o.type #[v1, v2]).run P w = .ok v' w') (h : K (a.put o.dst v') w') :
    if Region.wanted o (yielded ops a.tmps) = true then Oper.wp P o a w K Q else E := by
  have hw : Region.wanted o (yielded ops a.tmps) = true := by simp [Region.wanted, hgd]
  rw [if_pos hw]
  exact wp_append_run s x t ho v1 v2 v' w' hs hx hrun h

/-- append of a whole slice onto nil. -/
theorem run_copy_items (w : World) (A : Option Addr) (c : Nat) (l : List It) (hr : Rd w A (cls l)) (hn : l.length * 16 ≤ 211106232598528) (ty : TypeId) :
    ∃ A' c' w', (Builtin.append_ #[25, 25] ty #[.slice none 0 0, .slice A l.length c]).run Try.prog w = .ok (.slice A' l.length c') w' ∧
      w'.ownsRow w.heap.size 36 2 (.slice A' l.length c') l.length (cls l) ∧ Below w.heap.size w w' := by
  obtain ⟨i0, hi, hz0, hz1, hz2⟩ := info_parts info_item
  by_cases h0 : l = []
  · subst h0
    refine ⟨none, 0, w, ?_, World.ownsRow_nil _ _ _ _, Below.refl _ _⟩
    cases A with
    | none => simp [Builtin.append_, run_underlying Try.underlying25, sizeOf, typeInfo, hi, Builtin.lenOf, Builtin.firstCells]
    | some ad => simp [Builtin.append_, run_underlying Try.underlying25, sizeOf, typeInfo, hi, Builtin.lenOf, Builtin.firstCells, loadCells, loadCellsFrom]
  · rcases hr with h | ⟨b, o, rfl, hb, hc⟩
    · have := length_cls l
      rw [h] at this
      exact absurd (List.eq_nil_of_length_eq_zero (by simp at this; omega)) h0
    · obtain ⟨v', w', hr, h2, h3, _⟩ := run_append_own_wide (P := Try.prog) w w.heap.size 25 ty 36 i0 _ 2 16 Try.underlying25 hi hz0 hz1 hz2 rfl (by decide) (.slice none 0 0) 0 [] (World.ownsRow_nil _ _ _ _)
        ⟨b, o, none⟩ l.length c (cls l) (length_cls l) (fun j u hu => by rw [add_lit]; exact hc j u hu) (cls_oneCell l) (by simp only [maxLen]; omega) (by omega) (Nat.le_refl _)
      rw [Nat.zero_add, List.nil_append] at h2
      obtain ⟨A', c', rfl⟩ := own_slice h2
      exact ⟨A', c', w', hr, h2, (Below.refl _ _).grown h3 (Nat.le_refl _) (by simp [Value.ownBlock])⟩

set_option maxHeartbeats 1000000 in
theorem copied_any (w : World) (A : Option Addr) (n c : Nat) (l : List It) (hl : n = l.length) (hr : Rd w A (cls l)) (hn : l.length * 16 ≤ 211106232598528) :
    Calls Try.prog 35 #[.slice A n c] w (NewIts w l) := by
  subst hl
  obtain ⟨A', c', w', hrun, ho, hb⟩ := run_copy_items w A c l hr hn 25
  have HO := Lib.hid ho
  have HB := Lib.hid hb
  have HR := Lib.hid hrun
  clear ho hb hr hrun
  go_enter Try.func35, Try.ntmps35
  go_wp2_with (at_builtin; refine wpList_append_run rfl _ _ _ rfl _ _ _ _ rfl rfl HR.out ?_)
  go_ret
  exact ⟨A', c', rfl, HO.out, HB.out⟩
end Go.Proofs.Ytadacjndepkfeaa
