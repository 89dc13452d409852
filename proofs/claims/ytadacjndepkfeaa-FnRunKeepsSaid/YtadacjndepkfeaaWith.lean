/-
  The helper functions withItem and withoutItem of the laws: what they return. Condition: memory holds the lists that they are handed, within the reach of a slice.
-/
import Derived.Test.YtadacjndepkfeaaReaders
import Derived.Deep.RegionLaw
namespace Go.Proofs.Ytadacjndepkfeaa
open Go.RowKit Go.Shelf
open Hp (g swp Ev)

/-- append of one item onto an own slice. -/
theorem run_append_item {w : World} {B : Nat} {v : Value} {l : List It} (ho : w.ownsRow B 36 2 v l.length (cls l)) (x : It) (gs : Nat) (hg : w.heap[gs]? = some (.cells #[.int .i64 x.1, .int .i64 x.2] 36 (0, 0)))
    (hn : (l.length + 1) * 16 ≤ 211106232598528) (hB : B ≤ w.heap.size) (ty : TypeId) :
    ∃ A' c' w', (Builtin.append_ #[25, 25] ty #[v, .slice (some ⟨gs, 0, none⟩) 1 1]).run Try.prog w = .ok (.slice A' (l.length + 1) c') w' ∧
      w'.ownsRow B 36 2 (.slice A' (l.length + 1) c') (l.length + 1) (cls (l ++ [x])) ∧ w.grownBy w' v.ownBlock := by
  obtain ⟨i0, hi, hz0, hz1, hz2⟩ := info_parts info_item
  obtain ⟨v', w', hr, h2, h3, _⟩ := run_append_own_wide (P := Try.prog) w B 25 ty 36 i0 _ 2 16 Try.underlying25 hi hz0 hz1 hz2 rfl (by decide) v l.length (cls l) ho
    ⟨gs, 0, none⟩ 1 1 [.int .i64 x.1, .int .i64 x.2] rfl (World.news_of_block (cs := #[.int .i64 x.1, .int .i64 x.2]) (t := 36) (fr := (0, 0)) hg) (by simp [Value.oneCell']) (by simp only [maxLen]; omega) (wide_fits16 hn) hB
  obtain ⟨A', c', rfl⟩ := own_slice h2
  exact ⟨A', c', w', hr, by rw [cls_append]; exact h2, h3⟩

theorem wp_copy_items {w : World} {o : Oper} {a : Act} {K : Act → World → Prop} {Q : Exit → Act → World → Prop} (s x : Operand)
    (ho : o.op = .call { callee := .builtin .append, args := #[s, x], argTypes := #[25, 25] }) (A : Option Addr) (n c : Nat) (l : List It) (hl : n = l.length) (hs : a.eval s = .slice none 0 0) (hx : a.eval x = .slice A n c)
    (hr : Rd w A (cls l)) (hn : l.length * 16 ≤ 211106232598528)
    (h : ∀ A' c' w', w'.ownsRow w.heap.size 36 2 (.slice A' l.length c') l.length (cls l) → Below w.heap.size w w' → K (a.put o.dst (.slice A' l.length c')) w') : o.wp Try.prog a w K Q := by
  subst hl
  obtain ⟨A', c', w', hrun, h1, h2⟩ := run_copy_items w A c l hr hn o.type
  exact wp_append_run s x _ ho _ _ _ _ hs hx hrun (h A' c' w' h1 h2)
theorem wp_append_item {w : World} {o : Oper} {a : Act} {K : Act → World → Prop} {Q : Exit → Act → World → Prop} (s x : Operand)
    (ho : o.op = .call { callee := .builtin .append, args := #[s, x], argTypes := #[25, 25] }) (v : Value) (B : Nat) (l : List It) (y : It) (gs : Nat) (hs : a.eval s = v) (hx : a.eval x = .slice (some ⟨gs, 0, none⟩) 1 1)
    (hown : w.ownsRow B 36 2 v l.length (cls l)) (hg : w.heap[gs]? = some (.cells #[.int .i64 y.1, .int .i64 y.2] 36 (0, 0)))
    (hn : (l.length + 1) * 16 ≤ 211106232598528) (hB : B ≤ w.heap.size)
    (h : ∀ A' c' w', w'.ownsRow B 36 2 (.slice A' (l.length + 1) c') (l.length + 1) (cls (l ++ [y])) → w.grownBy w' v.ownBlock → K (a.put o.dst (.slice A' (l.length + 1) c')) w') : o.wp Try.prog a w K Q := by
  obtain ⟨A', c', w', hrun, h1, h2⟩ := run_append_item hown y gs hg hn hB o.type
  exact wp_append_run s x _ ho _ _ _ _ hs hx hrun (h A' c' w' h1 h2)
theorem wanted_plain {ops : Array Oper} {o : Oper} {a : Act} {X E : Prop} (hgd : o.guard = none) (h : X) : if Region.wanted o (yielded ops a.tmps) = true then X else E := by
  rw [if_pos (by simp [Region.wanted, hgd])]
  exact h

set_option maxHeartbeats 1000000 in
set_option maxRecDepth 100000 in
theorem withItem_any (w : World) (A : Option Addr) (n c : Nat) (l : List It) (x : It) (hl : n = l.length) (hr : Rd w A (cls l)) (hn : (l.length + 1) * 16 ≤ 211106232598528) :
    Calls Try.prog 32 #[.slice A n c, .agg #[.int .i64 x.1, .int .i64 x.2]] w (NewIts w (l ++ [x])) := by
  subst hl
  obtain ⟨x1, x2⟩ := x
  have hrw : ∀ W, Below w.heap.size w W → Rd W A (cls l) := fun W hW => hr.below hW (Nat.le_refl _)
  have HRW := Lib.hid hrw
  clear hrw hr
  have h00 := (Below.refl w.heap.size w).alloc (Nat.le_refl _) (.cells #[.int .i64 x1, .int .i64 x2] 36)
  have H00 := Lib.hid h00.drew
  have H01 := Lib.hid (h00.drew.alloc (by simp [World.drew]) (.cells #[.int .i64 x1, .int .i64 x2] 36))
  clear h00
  go_enter Try.func32, Try.ntmps32
  go_wp2
  go_region_held3 (fun w' => w'.cell? ⟨w.heap.size, 0, none⟩ = some (.int .i64 x1) ∧ w'.cell? ⟨w.heap.size, 1, none⟩ = some (.int .i64 x2))
    (first
      | go_keep
      | exact ⟨ka3, ka4⟩
      | exact ⟨ka1, ka2⟩)
    (first
      | (refine wanted_plain rfl (wp_copy_items (.const (.slice none 0 0)) (.tmp 5) rfl A l.length c l rfl (by simp [Act.eval]) (by simp [Act.eval]) ?_ ?_ ?_)
         · exact HRW.out _ (by first | exact H00.out | exact H01.out)
         · omega
         intro A1 c1 w1 ho1 hb1
         have ka1 : w1.cell? ⟨w.heap.size, 0, none⟩ = some (.int .i64 x1) := by rw [hb1.cell (by simp [World.drew]; try omega)]; simp
         have ka2 : w1.cell? ⟨w.heap.size, 1, none⟩ = some (.int .i64 x2) := by rw [hb1.cell (by simp [World.drew]; try omega)]; simp
         have hs1 := hb1.size
         have hz1 : w.heap.size < w1.heap.size := by simp [World.drew] at hs1; omega
         have hne1 : some w.heap.size ≠ (Value.slice A1 l.length c1).ownBlock := by intro e; have := (ho1.lt _ e.symm).1; simp [World.drew] at this; omega)
      | (refine wanted_plain rfl (wp_append_item (.tmp 6) (.tmp 8) rfl (.slice A1 l.length c1) (w.heap.size + 1) l (x1, x2) w1.heap.size (by simp [Act.eval]) (by simp [Act.eval]) ?_ ?_ ?_ ?_ ?_)
         · exact own_base (ho1.alloc _) (by simp [World.drew])
         · exact heap_alloc_new _ _
         · omega
         · simp [World.drew] at hs1 ⊢; omega
         intro A2 c2 w2 ho2 hg2
         have hb2 : Below w.heap.size w w2 := ((H00.out.trans (hb1.mono (by simp [World.drew]))).alloc (by simp [World.drew] at hs1 ⊢; omega) _).grown hg2 (by simp [World.drew] at hs1 ⊢; omega) (fun k hk => by have := (ho1.lt k hk).1; simp [World.drew] at this; omega)
         have ka3 := hg2.cell ((World.cell?_alloc_lt _ _ ⟨w.heap.size, 0, none⟩ hz1).trans ka1) hne1
         have ka4 := hg2.cell ((World.cell?_alloc_lt _ _ ⟨w.heap.size, 1, none⟩ hz1).trans ka2) hne1)
      | (refine wanted_plain rfl (wp_append_item (.tmp 6) (.tmp 8) rfl (.slice A1 l.length c1) (w.heap.size + 1) l (x1, x2) (w.heap.size + 1) (by simp [Act.eval]) (by simp [Act.eval]) ?_ ?_ ?_ ?_ ?_)
         · exact own_base ho1 (by simp [World.drew])
         · rw [hb1.block _ (by simp [World.drew])]; have hz := heap_alloc_new (w.alloc (.cells #[.int .i64 x1, .int .i64 x2] 36)) (.cells #[.int .i64 x1, .int .i64 x2] 36); rw [heap_size_alloc] at hz; exact hz
         · omega
         · simp [World.drew] at hs1 ⊢; omega
         intro A2 c2 w2 ho2 hg2
         have hb2 : Below w.heap.size w w2 := (H01.out.trans (hb1.mono (by simp [World.drew]; omega))).grown hg2 (by simp [World.drew] at hs1 ⊢; omega) (fun k hk => by have := (ho1.lt k hk).1; simp [World.drew] at this; omega)
         have ka3 := hg2.cell ka1 hne1
         have ka4 := hg2.cell ka2 hne1))
  all_goals
    have HO2 := Lib.hid ho2
    have HB2 := Lib.hid hb2
    clear ho2 hb2 hg2 ho1 hb1 ka1 ka2 ka3 ka4 hne1 hs1
    go_wp2
    go_ret
    exact ⟨A2, c2, by simp, own_base (by simpa using HO2.out) (by omega), HB2.out⟩

theorem erase_keep (l : List It) (x y : It) (h : x ∈ l ∨ ¬ y = x) : (l ++ [y]).erase x = l.erase x ++ [y] := by
  by_cases hm : x ∈ l
  · rw [List.erase_append_left _ hm]
  · have hy : ¬ y = x := h.resolve_left hm
    rw [List.erase_append_right _ hm, List.erase_cons_tail (by simpa using hy), List.erase_of_not_mem hm]
    simp
theorem erase_drop (l : List It) (x : It) (h : ¬ x ∈ l) : (l ++ [x]).erase x = l.erase x := by
  rw [List.erase_append_right _ h, List.erase_of_not_mem h]
  simp

theorem wpList_append_item {w : World} {ops : Array Oper} {rest : List Oper} {o : Oper} {a : Act} {Q : Exit → Act → World → Prop} (hgd : o.guard = none) (s x : Operand)
    (ho : o.op = .call { callee := .builtin .append, args := #[s, x], argTypes := #[25, 25] }) (v : Value) (B : Nat) (l : List It) (y : It) (gs : Nat) (hs : a.eval s = v) (hx : a.eval x = .slice (some ⟨gs, 0, none⟩) 1 1)
    (hown : w.ownsRow B 36 2 v l.length (cls l)) (hg : w.heap[gs]? = some (.cells #[.int .i64 y.1, .int .i64 y.2] 36 (0, 0)))
    (hn : (l.length + 1) * 16 ≤ 211106232598528) (hB : B ≤ w.heap.size)
    (h : ∀ A' c' w', w'.ownsRow B 36 2 (.slice A' (l.length + 1) c') (l.length + 1) (cls (l ++ [y])) → w.grownBy w' v.ownBlock → wpList Try.prog ops Q rest (a.put o.dst (.slice A' (l.length + 1) c')) w') : wpList Try.prog ops Q (o :: rest) a w :=
  wpList_plain hgd fun _ hK => wp_append_item s x ho v B l y gs hs hx hown hg hn hB fun A' c' w' h1 h2 => hK _ _ (h A' c' w' h1 h2)

/-- A Bool that tells whether an item is in a list. -/
def MemB (b : Bool) (x : It) (l : List It) : Prop := b = true ↔ x ∈ l

set_option maxHeartbeats 2000000 in
set_option maxRecDepth 100000 in
theorem withoutItem_any (w : World) (A : Option Addr) (n c : Nat) (l : List It) (x : It) (hl : n = l.length) (hr : Rd w A (cls l)) (hn : l.length * 16 ≤ 211106232598528) :
    Calls Try.prog 33 #[.slice A n c, .agg #[.int .i64 x.1, .int .i64 x.2]] w (NewIts w (l.erase x)) := by
  subst hl
  obtain ⟨x1, x2⟩ := x
  have hr' := hr.below ((Below.refl w.heap.size w).alloc (Nat.le_refl _) (.cells #[.int .i64 x1, .int .i64 x2] 36)) (Nat.le_refl _)
  clear hr
  go_enter Try.func33, Try.ntmps33
  go_wp2
  go_loopw [5, 6, 11] (fun s5 s6 s11 wr => ∃ (k m : Nat) (A' : Option Addr) (c' : Nat) (bb : Bool), s11 = .int .i64 (k : Int) ∧ k ≤ l.length ∧ s6 = .bool bb ∧ MemB bb (x1, x2) (l.take k) ∧ s5 = .slice A' m c' ∧ m ≤ k ∧ Hid (m = ((l.take k).erase (x1, x2)).length) ∧
      Aside (wr.ownsRow (w.heap.size + 1) 36 2 (.slice A' m c') m (cls ((l.take k).erase (x1, x2)))) ∧ Below (w.heap.size + 1) (w.alloc (.cells #[.int .i64 x1, .int .i64 x2] 36)) wr)
    (fun _ _ s11 _ => l.length - (intOf s11).toNat)
  case atStart => exact ⟨0, 0, none, 0, false, rfl, by omega, rfl, by simp [MemB], rfl, by omega, by simp [Hid], World.ownsRow_nil _ _ _ _, Below.refl _ _⟩
  case round =>
    obtain ⟨k, m, A', c', bb, rfl, hk, rfl, HBB, rfl, hmk, HM, hown, hb⟩ := hrel
    have hsz := hb.size
    rw [heap_size_alloc] at hsz
    have hx1 : wr.cell? ⟨w.heap.size, 0, none⟩ = some (.int .i64 x1) := by
      rw [hb.cell (p := ⟨w.heap.size, 0, none⟩) (by simp)]; simp
    have hx2 : wr.cell? ⟨w.heap.size, 1, none⟩ = some (.int .i64 x2) := by
      rw [hb.cell (p := ⟨w.heap.size, 1, none⟩) (by simp)]; simp
    have hz : w.heap.size < wr.heap.size := by omega
    by_cases hlt : k < l.length
    · obtain ⟨b, o, rfl, hbb, h1, h2⟩ := (hr'.below hb (by rw [heap_size_alloc]; exact Nat.le_refl _)).at_ k hlt
      have htk := take_succ_g l k hlt
      obtain ⟨⟨y1, y2⟩, hy⟩ : ∃ y, g l k = y := ⟨_, rfl⟩
      rw [hy] at h1 h2 htk
      have HTK := Lib.hid htk
      clear hr' hy htk
      by_cases he1 : y1 = x1
      · by_cases he2 : y2 = x2
        · subst he1
          subst he2
          cases bb with
          | false =>
            have hnm : ¬ (y1, y2) ∈ l.take k := fun h => by have := HBB.2 h; cases this
            have hed : (l.take (k + 1)).erase (y1, y2) = (l.take k).erase (y1, y2) := by rw [HTK.out]; exact erase_drop _ _ hnm
            have HED := Lib.hid hed
            have HMM : MemB true (y1, y2) (l.take (k + 1)) := by unfold MemB; rw [HTK.out]; simp
            clear hed hnm
            go_wp2
            go_roundw
            case rel => exact ⟨k + 1, m, A', c', true, by go_num, by omega, rfl, HMM, rfl, by omega, by rw [HED.out]; exact HM, by rw [HED.out]; exact hown.out.alloc _, hb.alloc hsz _⟩
            case measure => simp [intOf]; omega
          | true =>
            have hek : (l.take (k + 1)).erase (y1, y2) = (l.take k).erase (y1, y2) ++ [(y1, y2)] := by rw [HTK.out]; exact erase_keep _ _ _ (.inl (HBB.1 rfl))
            have HEK := Lib.hid hek
            have HMM : MemB true (y1, y2) (l.take (k + 1)) := by unfold MemB; rw [HTK.out]; simp
            clear hek
            have how := (hown.out.alloc (.cells #[.int .i64 y1, .int .i64 y2] 36)).alloc (.cells #[.int .i64 y1, .int .i64 y2] 36)
            rw [HM.out] at how
            have HOW := Lib.hid how
            have hzz := heap_alloc_new (wr.alloc (.cells #[.int .i64 y1, .int .i64 y2] 36)) (.cells #[.int .i64 y1, .int .i64 y2] 36)
            rw [heap_size_alloc] at hzz
            have HZZ := Lib.hid hzz
            have HLE := Lib.hid (show (((l.take k).erase (y1, y2)).length + 1) * 16 ≤ 211106232598528 by rw [← HM.out]; omega)
            have HLB := Lib.hid (show w.heap.size + 1 ≤ ((wr.alloc (.cells #[.int .i64 y1, .int .i64 y2] 36)).alloc (.cells #[.int .i64 y1, .int .i64 y2] 36)).heap.size by simp; omega)
            clear how hzz
            go_wp2_with (at_builtin; refine wpList_append_item rfl _ _ rfl _ (w.heap.size + 1) ((l.take k).erase (y1, y2)) (y1, y2) (wr.heap.size + 1) (by rw [← HM.out]; rfl) rfl HOW.out HZZ.out HLE.out HLB.out ?_)
            intro A2 c2 w2 ho2 hg2
            rw [← HM.out, ← HEK.out] at ho2
            have hb2 : Below (w.heap.size + 1) (w.alloc (.cells #[.int .i64 y1, .int .i64 y2] 36)) w2 := ((hb.alloc hsz _).alloc (by simp; omega) _).grown hg2 (by simp; omega) (fun kk hkk => (hown.out.lt kk (by rw [HM.out]; exact hkk)).1)
            have H2 : Aside (w2.ownsRow (w.heap.size + 1) 36 2 (.slice A2 (m + 1) c2) (m + 1) (cls ((l.take (k + 1)).erase (y1, y2)))) := ho2
            have HM2 : Hid (m + 1 = ((l.take (k + 1)).erase (y1, y2)).length) := by rw [HEK.out, List.length_append, ← HM.out]; rfl
            rw [← HM.out]
            clear ho2 hg2 hown hb h1 h2 hx1 hx2
            go_wp2
            go_roundw
            case rel => exact ⟨k + 1, m + 1, A2, c2, true, by go_num, by omega, rfl, HMM, rfl, by omega, HM2, H2, hb2⟩
            case measure => simp [intOf]; omega
        · subst he1
          have hq : (y2 == x2) = false := by simpa using he2
          have hek : (l.take (k + 1)).erase (y1, x2) = (l.take k).erase (y1, x2) ++ [(y1, y2)] := by rw [HTK.out]; exact erase_keep _ _ _ (.inr (fun h => by injection h with _ h; exact he2 h))
          have HEK := Lib.hid hek
          have HMM : MemB bb (y1, x2) (l.take (k + 1)) := by unfold MemB; rw [HTK.out]; rw [show (bb = true ↔ _) from HBB]; simp [Ne.symm he2]
          clear hek
          have how := (hown.out.alloc (.cells #[.int .i64 y1, .int .i64 y2] 36)).alloc (.cells #[.int .i64 y1, .int .i64 y2] 36)
          rw [HM.out] at how
          have HOW := Lib.hid how
          have hzz := heap_alloc_new (wr.alloc (.cells #[.int .i64 y1, .int .i64 y2] 36)) (.cells #[.int .i64 y1, .int .i64 y2] 36)
          rw [heap_size_alloc] at hzz
          have HZZ := Lib.hid hzz
          have HLE := Lib.hid (show (((l.take k).erase (y1, x2)).length + 1) * 16 ≤ 211106232598528 by rw [← HM.out]; omega)
          have HLB := Lib.hid (show w.heap.size + 1 ≤ ((wr.alloc (.cells #[.int .i64 y1, .int .i64 y2] 36)).alloc (.cells #[.int .i64 y1, .int .i64 y2] 36)).heap.size by simp; omega)
          clear how hzz
          go_wp2_with (at_builtin; refine wpList_append_item rfl _ _ rfl _ (w.heap.size + 1) ((l.take k).erase (y1, x2)) (y1, y2) (wr.heap.size + 1) (by rw [← HM.out]; rfl) rfl HOW.out HZZ.out HLE.out HLB.out ?_)
          intro A2 c2 w2 ho2 hg2
          rw [← HM.out, ← HEK.out] at ho2
          have hb2 : Below (w.heap.size + 1) (w.alloc (.cells #[.int .i64 y1, .int .i64 x2] 36)) w2 := ((hb.alloc hsz _).alloc (by simp; omega) _).grown hg2 (by simp; omega) (fun kk hkk => (hown.out.lt kk (by rw [HM.out]; exact hkk)).1)
          have H2 : Aside (w2.ownsRow (w.heap.size + 1) 36 2 (.slice A2 (m + 1) c2) (m + 1) (cls ((l.take (k + 1)).erase (y1, x2)))) := ho2
          have HM2 : Hid (m + 1 = ((l.take (k + 1)).erase (y1, x2)).length) := by rw [HEK.out, List.length_append, ← HM.out]; rfl
          rw [← HM.out]
          clear ho2 hg2 hown hb h1 h2 hx1 hx2
          go_wp2
          go_roundw
          case rel => exact ⟨k + 1, m + 1, A2, c2, bb, by go_num, by omega, rfl, HMM, rfl, by omega, HM2, H2, hb2⟩
          case measure => simp [intOf]; omega
      · have hq : (y1 == x1) = false := by simpa using he1
        have hek : (l.take (k + 1)).erase (x1, x2) = (l.take k).erase (x1, x2) ++ [(y1, y2)] := by rw [HTK.out]; exact erase_keep _ _ _ (.inr (fun h => by injection h with h _; exact he1 h))
        have HEK := Lib.hid hek
        have HMM : MemB bb (x1, x2) (l.take (k + 1)) := by unfold MemB; rw [HTK.out]; rw [show (bb = true ↔ _) from HBB]; simp [Ne.symm he1]
        clear hek
        have how := (hown.out.alloc (.cells #[.int .i64 y1, .int .i64 y2] 36)).alloc (.cells #[.int .i64 y1, .int .i64 y2] 36)
        rw [HM.out] at how
        have HOW := Lib.hid how
        have hzz := heap_alloc_new (wr.alloc (.cells #[.int .i64 y1, .int .i64 y2] 36)) (.cells #[.int .i64 y1, .int .i64 y2] 36)
        rw [heap_size_alloc] at hzz
        have HZZ := Lib.hid hzz
        have HLE := Lib.hid (show (((l.take k).erase (x1, x2)).length + 1) * 16 ≤ 211106232598528 by rw [← HM.out]; omega)
        have HLB := Lib.hid (show w.heap.size + 1 ≤ ((wr.alloc (.cells #[.int .i64 y1, .int .i64 y2] 36)).alloc (.cells #[.int .i64 y1, .int .i64 y2] 36)).heap.size by simp; omega)
        clear how hzz
        go_wp2_with (at_builtin; refine wpList_append_item rfl _ _ rfl _ (w.heap.size + 1) ((l.take k).erase (x1, x2)) (y1, y2) (wr.heap.size + 1) (by rw [← HM.out]; rfl) rfl HOW.out HZZ.out HLE.out HLB.out ?_)
        intro A2 c2 w2 ho2 hg2
        rw [← HM.out, ← HEK.out] at ho2
        have hb2 : Below (w.heap.size + 1) (w.alloc (.cells #[.int .i64 x1, .int .i64 x2] 36)) w2 := ((hb.alloc hsz _).alloc (by simp; omega) _).grown hg2 (by simp; omega) (fun kk hkk => (hown.out.lt kk (by rw [HM.out]; exact hkk)).1)
        have H2 : Aside (w2.ownsRow (w.heap.size + 1) 36 2 (.slice A2 (m + 1) c2) (m + 1) (cls ((l.take (k + 1)).erase (x1, x2)))) := ho2
        have HM2 : Hid (m + 1 = ((l.take (k + 1)).erase (x1, x2)).length) := by rw [HEK.out, List.length_append, ← HM.out]; rfl
        rw [← HM.out]
        clear ho2 hg2 hown hb h1 h2 hx1 hx2
        go_wp2
        go_roundw
        case rel => exact ⟨k + 1, m + 1, A2, c2, bb, by go_num, by omega, rfl, HMM, rfl, by omega, HM2, H2, hb2⟩
        case measure => simp [intOf]; omega
    · go_wp2
      go_ret
      have hkl : k = l.length := by omega
      have ho := hown.out
      rw [hkl, List.take_of_length_le (Nat.le_refl _)] at ho
      have hm := HM.out
      rw [hkl, List.take_of_length_le (Nat.le_refl _)] at hm
      rw [hm] at ho
      exact ⟨A', c', by rw [hm]; rfl, own_base ho (by omega), ((Below.refl _ _).alloc (Nat.le_refl _) _).trans (hb.mono (by omega))⟩
end Go.Proofs.Ytadacjndepkfeaa
