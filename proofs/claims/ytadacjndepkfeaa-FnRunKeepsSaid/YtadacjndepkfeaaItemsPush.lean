/-
  impl's type items: its method Push puts an item behind the last one. Condition: memory holds the list (RI); the longer list is within the reach of a slice.
-/
import Derived.Test.YtadacjndepkfeaaItemsPop
import Derived.Test.YtadacjndepkfeaaToItems
import Derived.Test.YtadacjndepkfeaaHeapPush
import Derived.Deep.RegionLaw
namespace Go.Proofs.Ytadacjndepkfeaa
open Go.RowKit Go.Shelf
open Hp (g swp Ev)

/-- append of one item onto an own slice, at the type items. -/
theorem wp_append_items {w : World} {o : Oper} {a : Act} {K : Act → World → Prop} {Q : Exit → Act → World → Prop} (s x : Operand)
    (ho : o.op = .call { callee := .builtin .append, args := #[s, x], argTypes := #[52, 52] }) (u : Value) (B : Nat) (l : List It) (y : It) (gs : Nat) (hs : a.eval s = u) (hx : a.eval x = .slice (some ⟨gs, 0, none⟩) 1 1)
    (hown : w.ownsRow B 36 2 u l.length (cls l)) (hg : w.heap[gs]? = some (.cells #[.int .i64 y.1, .int .i64 y.2] 36 (0, 0)))
    (hn : (l.length + 1) * 16 ≤ 211106232598528) (hB : B ≤ w.heap.size)
    (h : ∀ A' c' w', w'.ownsRow B 36 2 (.slice A' (l.length + 1) c') (l.length + 1) (cls (l ++ [y])) → w.grownBy w' u.ownBlock → K (a.put o.dst (.slice A' (l.length + 1) c')) w') : o.wp Try.prog a w K Q := by
  obtain ⟨i0, hi, hz0, hz1, hz2⟩ := info_parts info_item
  obtain ⟨v', w', hr, h2, h3, _⟩ := run_append_own_wide (P := Try.prog) w B 52 o.type 36 i0 _ 2 16 Try.underlying52 hi hz0 hz1 hz2 rfl (by decide) u l.length (cls l) hown
    ⟨gs, 0, none⟩ 1 1 [.int .i64 y.1, .int .i64 y.2] rfl (World.news_of_block (cs := #[.int .i64 y.1, .int .i64 y.2]) (t := 36) (fr := (0, 0)) hg) (by simp [Value.oneCell']) (by simp only [maxLen]; omega) (wide_fits16 hn) hB
  obtain ⟨A', c', rfl⟩ := own_slice h2
  exact wp_append_run s x _ ho _ _ _ _ hs hx hr (h A' c' w' (by rw [cls_append]; exact h2) h3)
theorem wanted_push {ops : Array Oper} {o : Oper} {a : Act} {X E : Prop} (hgd : o.guard = none) (h : X) : if Region.wanted o (yielded ops a.tmps) = true then X else E := by
  rw [if_pos (by simp [Region.wanted, hgd])]
  exact h

theorem push_note {B hb : Nat} {v v' : Value} {l l' : List It} {w w1 : World} (hbk : w.heap[hb]? = some (.cells #[v] 52 (0, 0))) (ho : w.ownsRow B 36 2 v l.length (cls l)) (hlow : B ≤ hb) (o : Obj) (n : Nat)
    (h1 : w1.ownsRow B 36 2 v' n (cls l')) (hg : (w.drew.alloc o).grownBy w1 v.ownBlock) :
    w1.heap[hb]? = some (.cells #[v] 52 (0, 0)) ∧ (w1.setCell ⟨hb, 0, none⟩ v').heap[hb]? = some (.cells #[v'] 52 (0, 0)) ∧ (w1.setCell ⟨hb, 0, none⟩ v').ownsRow B 36 2 v' n (cls l') ∧ Below B w (w1.setCell ⟨hb, 0, none⟩ v') := by
  have hlt := lt_of_block hbk
  have hne := own_ne ho hbk (by decide)
  have hb1 : w1.heap[hb]? = some (.cells #[v] 52 (0, 0)) := by
    rw [hg.block hb (by simp; omega) (Ne.symm hne)]
    exact (Below.heap_alloc w.drew o hb hlt).trans hbk
  refine ⟨hb1, one_setCell hb1, ownsRow_setCell_other h1 (own_ne h1 hb1 (by decide)) _, ?_⟩
  exact (((Below.refl B w).drew.alloc (show B ≤ w.heap.size from Nat.le_trans hlow (Nat.le_of_lt hlt)) o).grown hg (by simp; omega) (fun k hk => (ho.lt k hk).1)).setCell hlow _

set_option maxHeartbeats 2000000 in
set_option maxRecDepth 100000 in
theorem items_push {B hb : Nat} {v : Value} {l : List It} {w : World} (hbk : w.heap[hb]? = some (.cells #[v] 52 (0, 0))) (ho : w.ownsRow B 36 2 v l.length (cls l)) (hlow : B ≤ hb) (x : It) (hn : (l.length + 1) * 16 ≤ 211106232598528) :
    Calls Try.prog 69 #[.pointer (some ⟨hb, 0, none⟩), encI x] w fun e w' => e = .returned (.tuple #[]) ∧
      ∃ v', w'.heap[hb]? = some (.cells #[v'] 52 (0, 0)) ∧ w'.ownsRow B 36 2 v' (l ++ [x]).length (cls (l ++ [x])) ∧ Below B w w' := by
  obtain ⟨x1, x2⟩ := x
  have hlt := lt_of_block hbk
  obtain ⟨A1, c1, rfl⟩ := own_slice ho
  have k0 : w.cell? ⟨hb, 0, none⟩ = some (.slice A1 l.length c1) := by simp [World.cell?, hbk]
  have HO := Lib.hid ho
  have HBK := Lib.hid hbk
  obtain ⟨m, hm⟩ : ∃ m, m = l.length := ⟨_, rfl⟩
  rw [← hm] at k0
  have HM := Lib.hid hm
  have hta := run_assert_item
  clear ho hbk hm
  unfold encI
  go_enter Try.func69, Try.ntmps69
  go_wp2
  go_region_law
    (first
      | (refine wanted_push rfl (wp_append_items (.tmp 7) (.tmp 10) rfl (.slice A1 l.length c1) B l (x1, x2) w.heap.size (by simp [Act.eval, HM.out]) (by simp [Act.eval]) ?_ ?_ ?_ ?_ ?_)
         · exact (HO.out.drew.alloc _)
         · exact heap_alloc_new _ _
         · exact hn
         · simp; omega
         intro A3 c3 w3 ho3 hg3
         obtain ⟨hm3, hW3, hO3, hB3⟩ := push_note HBK.out HO.out hlow _ _ ho3 hg3
         have k3 : w3.cell? ⟨hb, 0, none⟩ = some (.slice A1 m c1) := by simp [World.cell?, hm3, HM.out]
         have f3 : w3.frozen? ⟨hb, 0, none⟩ = false := by simp [World.frozen?, hm3]))
  all_goals
    go_end0
    exact ⟨rfl, _, hW3, by rw [List.length_append]; exact hO3, hB3⟩

theorem mthPush : (Try.prog.info? 54).bind (fun i => (i.methods.find? (·.name == "Push")).map (fun m => (m.path, m.func))) = some (#[], some (69, true)) := by kernel_rfl

theorem items_HPush (B : Nat) (w0 : World) (hb N : Nat) (hN : N * 16 ≤ 211106232598528) {M : Nat} : HPush 54 (.pointer (some ⟨hb, 0, none⟩)) encI evI M N (RI B w0 hb N) where
  push := fun l tr w x h hl _ => by
    obtain ⟨v, hv, ho⟩ := h.own
    refine ⟨69, _, run_method_ptr _ mthPush Try.underlying54, enters_of Try.func69 (by kernel_rfl) rfl,
      (items_push hv ho h.low x (by omega)).mono ?_⟩
    rintro e w' ⟨rfl, v', hv', ho', hb'⟩
    exact ⟨rfl, ⟨v', hv', ho'⟩, h.low, h.below.trans hb', by rw [List.length_append]; simp; omega, h.few⟩
end Go.Proofs.Ytadacjndepkfeaa
