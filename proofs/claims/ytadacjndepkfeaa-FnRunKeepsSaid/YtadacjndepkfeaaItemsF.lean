/-
  impl's type items, called through heap.Interface by its address: its methods keep a list of items, and leave alone all blocks but the variable's and the list's own. Condition: memory holds the list (RJ); where the list grows: it stays within what append can bear.
-/
import Derived.Test.YtadacjndepkfeaaFrame
import Derived.Test.YtadacjndepkfeaaItemsPush
namespace Go.Proofs.Ytadacjndepkfeaa
open Go.RowKit Go.Shelf
open Hp (g swp Ev)

/-- The blocks that a heap may change: its variable's, and that of its row. -/
def HX (hb : Nat) (v : Value) (i : Nat) : Prop := i = hb ∨ v.ownBlock = some i

/-- A slice lies in the row of another one, or in a block that is new since a world. -/
def Lies (w0 : World) (v0 v : Value) : Prop := ∀ k, v.ownBlock = some k → v0.ownBlock = some k ∨ w0.heap.size ≤ k
theorem Lies.refl (w : World) (v : Value) : Lies w v v := fun _ h => .inl h
theorem Lies.of_or {w w0 : World} {v0 v : Value} (h : v.ownBlock = v0.ownBlock ∨ v.ownBlock = some w.heap.size) (hw : w0.heap.size ≤ w.heap.size) : Lies w0 v0 v := by
  intro k hk
  rcases h with h | h
  · exact .inl (by rw [← h]; exact hk)
  · right
    rw [h] at hk
    injection hk with hk
    omega
theorem Lies.trans {w0 w1 : World} {v0 v1 v2 : Value} (h : Lies w0 v0 v1) (k : Lies w1 v1 v2) (hw : w0.heap.size ≤ w1.heap.size) : Lies w0 v0 v2 := by
  intro i hi
  rcases k i hi with h1 | h1
  · exact h i h1
  · exact .inr (Nat.le_trans hw h1)

/-- The heap of items whose variable lies in block hb: what memory holds; all other blocks are as w0 has them. -/
structure RJ (B : Nat) (w0 : World) (hb : Nat) (v0 : Value) (N : Nat) (l : List It) (_tr : List Ev) (w : World) : Prop where
  own : ∃ v, w.heap[hb]? = some (.cells #[v] 52 (0, 0)) ∧ w.ownsRow B 36 2 v l.length (cls l) ∧ Lies w0 v0 v
  frm : Frm (HX hb v0) w0 w
  size : l.length ≤ N
  few : N < 4611686018427387904

theorem frm_row {w0 w w' : World} {hb : Nat} {v0 v : Value} (h : Frm (HX hb v0) w0 w) (hl : Lies w0 v0 v) (hg : w.grownBy w' v.ownBlock) : Frm (HX hb v0) w0 w' :=
  h.next (Frm.of_grown (X := fun k => v.ownBlock = some k) hg (fun _ e => e)) (fun i hi e => by
    rcases hl i e with h1 | h1
    · exact .inr h1
    · omega)

theorem RJ.grown {B : Nat} {w0 : World} {hb : Nat} {v0 : Value} {N : Nat} {l : List It} {tr : List Ev} {w : World} (h : RJ B w0 hb v0 N l tr w) {w' : World} {l' : List It} {tr' : List Ev} (v : Value) (hv : w.heap[hb]? = some (.cells #[v] 52 (0, 0)))
    (hl : l'.length ≤ N) (ho : w.ownsRow B 36 2 v l.length (cls l)) (hlie : Lies w0 v0 v) (ho' : w'.ownsRow B 36 2 v l'.length (cls l')) (hg : w.grownBy w' v.ownBlock) : RJ B w0 hb v0 N l' tr' w' := by
  have hne := own_ne ho hv (by decide)
  refine ⟨⟨v, ?_, ho', hlie⟩, frm_row h.frm hlie hg, hl, h.few⟩
  rw [hg.block hb (lt_of_block hv) (Ne.symm hne)]; exact hv

theorem items_HJ (B : Nat) (w0 : World) (hb : Nat) (v0 : Value) (N : Nat) {M : Nat} : HI 54 (.pointer (some ⟨hb, 0, none⟩)) ltK M (RJ B w0 hb v0 N) where
  small := fun l tr w h => Nat.lt_of_le_of_lt h.size h.few
  len := fun l tr w h => by
    obtain ⟨v, hv, ho, _⟩ := h.own
    obtain ⟨A, c, rfl⟩ := own_slice ho
    refine ⟨65, _, run_method_ptr_val _ mthLen Try.underlying54 (run_loadVar_slice Try.underlying52 (cell_of_one hv)), enters_of Try.func65 (by kernel_rfl) rfl, (items_len w A _ c).mono ?_⟩
    rintro e w' ⟨rfl, rfl⟩
    exact ⟨rfl, h⟩
  less := fun l tr w i j h hi hj _ => by
    obtain ⟨v, hv, ho, hlie⟩ := h.own
    have hcl := items_less_own ho i j hi hj
    obtain ⟨A, c, rfl⟩ := own_slice ho
    refine ⟨66, _, run_method_ptr_val _ mthLess Try.underlying54 (run_loadVar_slice Try.underlying52 (cell_of_one hv)), enters_of Try.func66 (by kernel_rfl) rfl, hcl.mono ?_⟩
    rintro e w' ⟨rfl, q, rfl⟩
    exact ⟨rfl, ⟨⟨_, hv, ownsRow_drewN ho q, hlie⟩, h.frm.drewN q, h.size, h.few⟩⟩
  swap := fun l tr w i j h hi hj _ => by
    obtain ⟨v, hv, ho, hlie⟩ := h.own
    have hcl := items_swap_own ho i j hi hj
    obtain ⟨A, c, rfl⟩ := own_slice ho
    refine ⟨67, _, run_method_ptr_val _ mthSwap Try.underlying54 (run_loadVar_slice Try.underlying52 (cell_of_one hv)), enters_of Try.func67 (by kernel_rfl) rfl, hcl.mono ?_⟩
    rintro e w' ⟨rfl, ho', hg⟩
    exact ⟨rfl, h.grown _ hv (by rw [Hp.length_swp]; exact h.size) ho hlie ho' hg⟩

theorem items_HJPop (B : Nat) (w0 : World) (hb : Nat) (v0 : Value) (N : Nat) {M : Nat} : HPop 54 (.pointer (some ⟨hb, 0, none⟩)) encI evI M (RJ B w0 hb v0 N) where
  pop := fun l tr w h hl _ => by
    obtain ⟨v, hv, ho, hlie⟩ := h.own
    have hne := own_ne ho hv (by decide)
    have hlt := lt_of_block hv
    refine ⟨68, _, run_method_ptr _ mthPop Try.underlying54, enters_of Try.func68 (by kernel_rfl) rfl,
      (items_pop_own (cell_of_one hv) (free_of_one hv) hne ho hl (Nat.lt_of_le_of_lt h.size h.few)).mono ?_⟩
    rintro e w' ⟨rfl, v', hv', rfl, ho'⟩
    refine ⟨rfl, ⟨v', ?_, ho', fun k hk => hlie k (by rw [← hv']; exact hk)⟩, (h.frm.setCell (.inl rfl) _).alloc _, ?_, h.few⟩
    · rw [Below.heap_alloc _ _ _ (by simpa [World.setCell] using hlt)]
      exact one_setCell hv
    · rw [List.length_dropLast]; have := h.size; omega

/-- append of one item onto an own slice, at the type items, and where the new slice lies. -/
theorem wp_append_items_at {w : World} {o : Oper} {a : Act} {K : Act → World → Prop} {Q : Exit → Act → World → Prop} (s x : Operand)
    (ho : o.op = .call { callee := .builtin .append, args := #[s, x], argTypes := #[52, 52] }) (u : Value) (B : Nat) (l : List It) (y : It) (gs : Nat) (hs : a.eval s = u) (hx : a.eval x = .slice (some ⟨gs, 0, none⟩) 1 1)
    (hown : w.ownsRow B 36 2 u l.length (cls l)) (hg : w.heap[gs]? = some (.cells #[.int .i64 y.1, .int .i64 y.2] 36 (0, 0)))
    (hn : (l.length + 1) * 16 ≤ 211106232598528) (hB : B ≤ w.heap.size)
    (h : ∀ A' c' w', w'.ownsRow B 36 2 (.slice A' (l.length + 1) c') (l.length + 1) (cls (l ++ [y])) → w.grownBy w' u.ownBlock → ((Value.slice A' (l.length + 1) c').ownBlock = u.ownBlock ∨ (Value.slice A' (l.length + 1) c').ownBlock = some w.heap.size) → K (a.put o.dst (.slice A' (l.length + 1) c')) w') : o.wp Try.prog a w K Q := by
  obtain ⟨i0, hi, hz0, hz1, hz2⟩ := info_parts info_item
  obtain ⟨v', w', hr, h2, h3, h4⟩ := run_append_wide_at (P := Try.prog) w B 52 o.type 36 i0 _ 2 16 Try.underlying52 hi hz0 hz1 hz2 rfl (by decide) u l.length (cls l) hown
    ⟨gs, 0, none⟩ 1 1 [.int .i64 y.1, .int .i64 y.2] rfl (World.news_of_block (cs := #[.int .i64 y.1, .int .i64 y.2]) (t := 36) (fr := (0, 0)) hg) (by simp [Value.oneCell']) (by simp only [maxLen]; omega) (wide_fits16 hn) hB
  obtain ⟨A', c', rfl⟩ := own_slice h2
  exact wp_append_run s x _ ho _ _ _ _ hs hx hr (h A' c' w' (by rw [cls_append]; exact h2) h3 h4)

theorem push_noteF {B hb : Nat} {v v' : Value} {l l' : List It} {w w1 : World} (hbk : w.heap[hb]? = some (.cells #[v] 52 (0, 0))) (ho : w.ownsRow B 36 2 v l.length (cls l)) (o : Obj) (n : Nat)
    (h1 : w1.ownsRow B 36 2 v' n (cls l')) (hg : (w.drew.alloc o).grownBy w1 v.ownBlock) (hl : v'.ownBlock = v.ownBlock ∨ v'.ownBlock = some (w.drew.alloc o).heap.size) :
    w1.heap[hb]? = some (.cells #[v] 52 (0, 0)) ∧ (w1.setCell ⟨hb, 0, none⟩ v').heap[hb]? = some (.cells #[v'] 52 (0, 0)) ∧ (w1.setCell ⟨hb, 0, none⟩ v').ownsRow B 36 2 v' n (cls l') ∧
      Frm (HX hb v) w (w1.setCell ⟨hb, 0, none⟩ v') ∧ Lies w v v' := by
  have hlt := lt_of_block hbk
  have hne := own_ne ho hbk (by decide)
  have hb1 : w1.heap[hb]? = some (.cells #[v] 52 (0, 0)) := by
    rw [hg.block hb (by simp; omega) (Ne.symm hne)]
    exact (Below.heap_alloc w.drew o hb hlt).trans hbk
  refine ⟨hb1, one_setCell hb1, ownsRow_setCell_other h1 (own_ne h1 hb1 (by decide)) _, ?_, Lies.of_or (w := w.drew.alloc o) hl (by simp)⟩
  exact Frm.setCell (X := HX hb v) (p := ⟨hb, 0, none⟩) (frm_row ((Frm.refl _ w).drew.alloc o) (Lies.refl w v) hg) (.inl rfl) _

set_option maxHeartbeats 2000000 in
set_option maxRecDepth 100000 in
theorem items_pushF {B hb : Nat} {v : Value} {l : List It} {w : World} (hbk : w.heap[hb]? = some (.cells #[v] 52 (0, 0))) (ho : w.ownsRow B 36 2 v l.length (cls l)) (hlow : B ≤ w.heap.size) (x : It) (hn : (l.length + 1) * 16 ≤ 211106232598528) :
    Calls Try.prog 69 #[.pointer (some ⟨hb, 0, none⟩), encI x] w fun e w' => e = .returned (.tuple #[]) ∧
      ∃ v', w'.heap[hb]? = some (.cells #[v'] 52 (0, 0)) ∧ w'.ownsRow B 36 2 v' (l ++ [x]).length (cls (l ++ [x])) ∧ Frm (HX hb v) w w' ∧ Lies w v v' := by
  obtain ⟨x1, x2⟩ := x
  have hlt := lt_of_block hbk
  obtain ⟨A1, c1, rfl⟩ := own_slice ho
  have k0 : w.cell? ⟨hb, 0, none⟩ = some (.slice A1 l.length c1) := by simp [World.cell?, hbk]
  have HO := Lib.hid ho
  have HBK := Lib.hid hbk
  obtain ⟨m, hm⟩ : ∃ m, m = l.length := ⟨_, rfl⟩
  rw [← hm] at k0
  have HM := Lib.hid hm
  have hta := run_assert_item
  clear ho hbk hm
  unfold encI
  go_enter Try.func69, Try.ntmps69
  go_wp2
  go_region_law
    (first
      | (refine wanted_push rfl (wp_append_items_at (.tmp 7) (.tmp 10) rfl (.slice A1 l.length c1) B l (x1, x2) w.heap.size (by simp [Act.eval, HM.out]) (by simp [Act.eval]) ?_ ?_ ?_ ?_ ?_)
         · exact (HO.out.drew.alloc _)
         · exact heap_alloc_new _ _
         · exact hn
         · simp; omega
         intro A3 c3 w3 ho3 hg3 hl3
         obtain ⟨hm3, hW3, hO3, hB3, hL3⟩ := push_noteF HBK.out HO.out _ _ ho3 hg3 hl3
         have HL3 := Lib.hid hL3
         clear hl3 hL3
         have k3 : w3.cell? ⟨hb, 0, none⟩ = some (.slice A1 m c1) := by simp [World.cell?, hm3, HM.out]
         have f3 : w3.frozen? ⟨hb, 0, none⟩ = false := by simp [World.frozen?, hm3]))
  all_goals
    go_end0
    exact ⟨rfl, _, hW3, by rw [List.length_append]; exact hO3, hB3, HL3.out⟩

theorem items_HJPush (B : Nat) (w0 : World) (hb : Nat) (v0 : Value) (N : Nat) (hN : N * 16 ≤ 211106232598528) (hB : B ≤ w0.heap.size) {M : Nat} : HPush 54 (.pointer (some ⟨hb, 0, none⟩)) encI evI M N (RJ B w0 hb v0 N) where
  push := fun l tr w x h hl _ => by
    obtain ⟨v, hv, ho, hlie⟩ := h.own
    refine ⟨69, _, run_method_ptr _ mthPush Try.underlying54, enters_of Try.func69 (by kernel_rfl) rfl,
      (items_pushF hv ho (Nat.le_trans hB h.frm.size) x (by omega)).mono ?_⟩
    rintro e w' ⟨rfl, v', hv', ho', hf', hl'⟩
    refine ⟨rfl, ⟨v', hv', ho', hlie.trans hl' h.frm.size⟩, h.frm.next hf' (fun i hi e => ?_), by rw [List.length_append]; simp; omega, h.few⟩
    rcases e with e | e
    · exact .inl e
    · rcases hlie i e with h1 | h1
      · exact .inr h1
      · omega
end Go.Proofs.Ytadacjndepkfeaa
