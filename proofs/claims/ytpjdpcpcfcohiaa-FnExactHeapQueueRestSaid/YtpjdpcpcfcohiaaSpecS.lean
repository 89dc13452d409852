/-
  spec's (*waiting).step, walked: each kind of step. Conditions: memory holds what it reads; the lists that grow stay within what append can bear.
-/
import Derived.Test.YtpjdpcpcfcohiaaSpecQ
import Derived.Deep.DeepCutAuto
namespace Go.Proofs.Ytpjdpcpcfcohiaa
open Go.RowKit Go.Shelf
open Hp (g swp Ev St nums fstK fstW dropW fndK fndW setW stpW)

theorem run_field_tag (W : World) (x y : Int) : (Instr.field 34 (.agg #[.int .i64 x, .int .i64 y]) 1).run Try.prog W = .ok (.int .i64 y) W := by kernel_rfl

/-- append of one item onto an own slice, and where the new slice lies. -/
theorem wp_append_itemL {w : World} {o : Oper} {a : Act} {K : Act → World → Prop} {Q : Exit → Act → World → Prop} (s x : Operand)
    (ho : o.op = .call { callee := .builtin .append, args := #[s, x], argTypes := #[24, 24] }) (v : Value) (B : Nat) (l : List It) (y : It) (gs : Nat) (hs : a.eval s = v) (hx : a.eval x = .slice (some ⟨gs, 0, none⟩) 1 1)
    (hown : w.ownsRow B 34 2 v l.length (cls l)) (hg : w.heap[gs]? = some (.cells #[.int .i64 y.1, .int .i64 y.2] 34 (0, 0)))
    (hn : l.length + 1 ≤ 13194139537408) (hB : B ≤ w.heap.size)
    (h : ∀ A' c' w', w'.ownsRow B 34 2 (.slice A' (l.length + 1) c') (l.length + 1) (cls (l ++ [y])) → w.grownBy w' v.ownBlock → ((Value.slice A' (l.length + 1) c').ownBlock = v.ownBlock ∨ (Value.slice A' (l.length + 1) c').ownBlock = some w.heap.size) → K (a.put o.dst (.slice A' (l.length + 1) c')) w') : o.wp Try.prog a w K Q := by
  obtain ⟨i0, hi, hz0, hz1, hz2⟩ := info_parts info_item
  obtain ⟨v', w', hr, h2, h3, h4⟩ := run_append_wide_at (P := Try.prog) w B 24 o.type 34 i0 _ 2 16 Try.underlying24 hi hz0 hz1 hz2 rfl (by decide) v l.length (cls l) hown
    ⟨gs, 0, none⟩ 1 1 (cl y) rfl (World.news_of_block (cs := #[.int .i64 y.1, .int .i64 y.2]) (t := 34) (fr := (0, 0)) hg) (by simp [cl, Value.oneCell']) (by simp only [maxLen]; omega) (wide_fits16 (m16 hn)) hB
  obtain ⟨A', c', rfl⟩ := own_slice h2
  exact wp_append_run s x _ ho _ _ _ _ hs hx hr (h A' c' w' (by rw [cls_append, show cls [y] = cl y by simp [cls]]; exact h2) h3 h4)

/-- What memory holds of a waiting queue. -/
structure WS (B : Nat) (w : World) (wb : Nat) (vi vo : Value) (c : Nat) (t out : List It) : Prop where
  box : w.heap[wb]? = some (WT vi (c : Int) vo)
  its : w.ownsRow B 34 2 vi t.length (cls t)
  out : w.ownsRow B 34 2 vo out.length (cls out)
  apart : ∀ k, vi.ownBlock = some k → vo.ownBlock ≠ some k
  low : B ≤ w.heap.size
  lowb : B ≤ wb
section
variable {B : Nat} {w w' : World} {wb : Nat} {vi vo : Value} {c : Nat} {t out : List It}
theorem WS.new (h : WS B w wb vi vo c t out) (hw : Below w.heap.size w w') : WS B w' wb vi vo c t out := by
  have f : Frm (fun _ => False) w w' := Frm.of_new hw
  refine ⟨?_, own_frm h.its f (fun _ _ e => e), own_frm h.out f (fun _ _ e => e), h.apart, Nat.le_trans h.low hw.size, h.lowb⟩
  rw [hw.block wb (lt_of_block h.box)]; exact h.box
theorem WS.idb (h : WS B w wb vi vo c t out) : vi.ownBlock ≠ some wb := own_ne h.its h.box (by decide)
theorem WS.odb (h : WS B w wb vi vo c t out) : vo.ownBlock ≠ some wb := own_ne h.out h.box (by decide)
/-- One item more waits. -/
theorem WS.pushed (h : WS B w wb vi vo c t out) (o : Obj) {w1 : World} {vi' : Value} {x : It} {m : Nat} (hm : m = c) (ho : w1.ownsRow B 34 2 vi' (t.length + 1) (cls (t ++ [x]))) (hg : (w.drew.alloc o).grownBy w1 vi.ownBlock) (hl : vi'.ownBlock = vi.ownBlock ∨ vi'.ownBlock = some (w.drew.alloc o).heap.size) :
    w1.heap[wb]? = some (WT vi (m : Int) vo) ∧ (w1.setCell ⟨wb, 0, none⟩ vi').heap[wb]? = some (WT vi' (m : Int) vo) ∧ WS B ((w1.setCell ⟨wb, 0, none⟩ vi').setCell ⟨wb, 1, none⟩ (.int .i64 ((m : Int) + 1))) wb vi' vo (c + 1) (t ++ [x]) out ∧ Below B w ((w1.setCell ⟨wb, 0, none⟩ vi').setCell ⟨wb, 1, none⟩ (.int .i64 ((m : Int) + 1))) := by
  subst hm
  have hlt := lt_of_block h.box
  have hL : Lies w vi vi' := Lies.of_or (w := w.drew.alloc o) hl (by simp)
  have hf1 : Frm (fun i => vi.ownBlock = some i) w w1 := (((Frm.refl _ w).drew.alloc o).next (Frm.of_grown (X := fun i => vi.ownBlock = some i) hg (fun _ e => e)) (fun _ _ e => e))
  have hb1 : w1.heap[wb]? = some (WT vi (m : Int) vo) := by rw [hf1.block wb hlt h.idb]; exact h.box
  have hne : vi'.ownBlock ≠ some wb := own_ne ho hb1 (by decide)
  have hb2 := WT.set0 hb1 vi'
  have hf2 : Frm (fun i => vi.ownBlock = some i ∨ i = wb) w ((w1.setCell ⟨wb, 0, none⟩ vi').setCell ⟨wb, 1, none⟩ (.int .i64 ((m : Int) + 1))) :=
    ((hf1.mono (fun _ _ e => .inl e)).setCell (p := ⟨wb, 0, none⟩) (.inr rfl) _).setCell (p := ⟨wb, 1, none⟩) (.inr rfl) _
  refine ⟨hb1, hb2, ⟨by have := WT.set1 hb2 ((m : Int) + 1); push_cast; exact this, ?_, ?_, ?_, Nat.le_trans h.low hf2.size, h.lowb⟩, hf2.below h.low ?_⟩
  · rw [List.length_append]
    exact ownsRow_setCell_other (a := ⟨wb, 1, none⟩) (ownsRow_setCell_other (a := ⟨wb, 0, none⟩) ho hne _) hne _
  · exact own_frm h.out hf2 (fun k hk e => by
      rcases e with e | e
      · exact h.apart k e hk
      · exact h.odb (by rw [hk, e]))
  · intro k hk hk2
    rcases hL k hk with e | e
    · exact h.apart k e hk2
    · have := (h.out.lt k hk2).2
      omega
  · rintro i (e | e)
    · exact (h.its.lt i e).1
    · rw [e]; exact h.lowb
/-- One item more has left. -/
theorem WS.outed (h : WS B w wb vi vo c t out) (o : Obj) {w1 : World} {vo' : Value} {x : It} (ho : w1.ownsRow B 34 2 vo' (out.length + 1) (cls (out ++ [x]))) (hg : (w.drew.alloc o).grownBy w1 vo.ownBlock) (hl : vo'.ownBlock = vo.ownBlock ∨ vo'.ownBlock = some (w.drew.alloc o).heap.size) :
    w1.heap[wb]? = some (WT vi (c : Int) vo) ∧ WS B (w1.setCell ⟨wb, 2, none⟩ vo') wb vi vo' c t (out ++ [x]) ∧ Below B w (w1.setCell ⟨wb, 2, none⟩ vo') := by
  have hlt := lt_of_block h.box
  have hL : Lies w vo vo' := Lies.of_or (w := w.drew.alloc o) hl (by simp)
  have hf1 : Frm (fun i => vo.ownBlock = some i) w w1 := (((Frm.refl _ w).drew.alloc o).next (Frm.of_grown (X := fun i => vo.ownBlock = some i) hg (fun _ e => e)) (fun _ _ e => e))
  have hb1 : w1.heap[wb]? = some (WT vi (c : Int) vo) := by rw [hf1.block wb hlt h.odb]; exact h.box
  have hne : vo'.ownBlock ≠ some wb := own_ne ho hb1 (by decide)
  have hf2 : Frm (fun i => vo.ownBlock = some i ∨ i = wb) w (w1.setCell ⟨wb, 2, none⟩ vo') := (hf1.mono (fun _ _ e => .inl e)).setCell (p := ⟨wb, 2, none⟩) (.inr rfl) _
  refine ⟨hb1, ⟨WT.set2 hb1 vo', ?_, ?_, ?_, Nat.le_trans h.low hf2.size, h.lowb⟩, hf2.below h.low ?_⟩
  · exact own_frm h.its hf2 (fun k hk e => by
      rcases e with e | e
      · exact h.apart k hk e
      · exact h.idb (by rw [hk, e]))
  · rw [List.length_append]
    exact ownsRow_setCell_other (a := ⟨wb, 2, none⟩) ho hne _
  · intro k hk hk2
    rcases hL k hk2 with e | e
    · exact h.apart k hk e
    · have := (h.its.lt k hk).2
      omega
  · rintro i (e | e)
    · exact (h.out.lt i e).1
    · rw [e]; exact h.lowb
/-- After take. -/
theorem WS.taken (h : WS B w wb vi vo c t out) {vi' : Value} {L : List It} (hb : w'.heap[wb]? = some (WT vi' (c : Int) vo)) (ho : w'.ownsRow w.heap.size 34 2 vi' L.length (cls L)) (hf : Frm (fun i => i = wb) w w') : WS B w' wb vi' vo c L out ∧ Below B w w' := by
  refine ⟨⟨hb, own_base ho h.low, own_frm h.out hf (fun k hk e => h.odb (by rw [hk, e])), ?_, Nat.le_trans h.low hf.size, h.lowb⟩, hf.below h.low (fun i e => by rw [e]; exact h.lowb)⟩
  intro k hk hk2
  have h1 := (ho.lt k hk).1
  have h2 := (h.out.lt k hk2).2
  omega
/-- One item stored. -/
theorem WS.set {gb cp : Nat} (h : WS B w wb (.slice (some ⟨gb, 0, none⟩) t.length cp) vo c t out) {i : Nat} (hi : i < t.length) (x : It) :
    WS B ((w.setCell ⟨gb, i * 2, none⟩ (.int .i64 x.1)).setCell ⟨gb, i * 2 + 1, none⟩ (.int .i64 x.2)) wb (.slice (some ⟨gb, 0, none⟩) t.length cp) vo c (t.set i x) out ∧ Below B w ((w.setCell ⟨gb, i * 2, none⟩ (.int .i64 x.1)).setCell ⟨gb, i * 2 + 1, none⟩ (.int .i64 x.2)) := by
  have hgw : wb ≠ gb := fun e => h.idb (by rw [e]; rfl)
  have ho := ((h.its.stored (i * 2) (.int .i64 x.1)).1.stored (i * 2 + 1) (.int .i64 x.2)).1
  rw [← cls_set t i x hi] at ho
  have hg := (h.its.lt gb rfl).1
  refine ⟨⟨?_, by rw [List.length_set]; exact ho, ?_, h.apart, by simpa [World.setCell] using h.low, h.lowb⟩, ((Below.refl _ _).setCell (p := ⟨gb, i * 2, none⟩) hg _).setCell (p := ⟨gb, i * 2 + 1, none⟩) hg _⟩
  · rw [Below.heap_setCell _ _ _ _ hgw, Below.heap_setCell _ _ _ _ hgw]; exact h.box
  · exact ownsRow_setCell_other (a := ⟨gb, i * 2 + 1, none⟩) (ownsRow_setCell_other (a := ⟨gb, i * 2, none⟩) h.out (h.apart gb rfl) _) (h.apart gb rfl) _
end

/-- What a step leaves. -/
def SteppedW (B wb : Nat) (s : St) (c : Nat) (t out : List It) (w : World) (e : Ending) (w' : World) : Prop :=
  e = .returned (.tuple #[]) ∧ ∃ vi vo, WS B w' wb vi vo (stpW s (c, t)).1.1 (stpW s (c, t)).1.2 (out ++ (stpW s (c, t)).2) ∧ Below B w w'
theorem SteppedW.of {B wb : Nat} {s : St} {c : Nat} {t out : List It} {w w' : World} {vi vo : Value} {c' : Nat} {t' o' : List It} (hs : stpW s (c, t) = ((c', t'), o')) (h : WS B w' wb vi vo c' t' (out ++ o')) (hb : Below B w w') : SteppedW B wb s c t out w (.returned (.tuple #[])) w' :=
  ⟨rfl, vi, vo, by rw [hs]; exact h, hb⟩

set_option maxHeartbeats 4000000 in
set_option maxRecDepth 100000 in
theorem stepW_push {B : Nat} {w : World} {wb : Nat} {vi vo : Value} {c : Nat} {t out : List It} (h : WS B w wb vi vo c t out) (a k z : Int) (ht : t.length + 1 ≤ 13194139537408) (hc : c + 1 ≤ 13194139537408) :
    Calls Try.prog 42 #[.pointer (some ⟨wb, 0, none⟩), .agg #[.int .i64 1, .int .i64 a, .int .i64 k, .int .i64 z]] w (SteppedW B wb (1, a, k, z) c t out w) := by
  have hst : stpW (1, a, k, z) (c, t) = ((c + 1, t ++ [(k, (c : Int))]), []) := by unfold stpW; rw [if_pos rfl]
  have HST := Lib.hid hst
  obtain ⟨sb, hsb⟩ : ∃ sb, sb = w.heap.size := ⟨_, rfl⟩
  obtain ⟨W, hW⟩ : ∃ W, W = w.alloc (.cells #[.int .i64 1, .int .i64 a, .int .i64 k, .int .i64 z] 36) := ⟨_, rfl⟩
  have hnew : Below w.heap.size w W := by rw [hW]; exact (Below.refl _ _).alloc (Nat.le_refl _) _
  have h1 := h.new hnew
  obtain ⟨Ai, ci, hvi⟩ := own_slice h1.its
  subst hvi
  obtain ⟨k0, k1, _, _⟩ := WT.cells h1.box
  have hltb := lt_of_block h1.box
  have s0 : W.cell? ⟨sb, 0, none⟩ = some (.int .i64 1) := by rw [hW, hsb]; simp [World.cell?_alloc_new]
  have s2 : W.cell? ⟨sb, 2, none⟩ = some (.int .i64 k) := by rw [hW, hsb]; simp [World.cell?_alloc_new]
  have hsz : sb < W.heap.size := by rw [hW, hsb]; simp
  obtain ⟨m, hm⟩ : ∃ m, m = c := ⟨_, rfl⟩
  rw [← hm] at k1
  obtain ⟨n, hn⟩ : ∃ n, n = t.length := ⟨_, rfl⟩
  rw [← hn] at k0
  have hmm : m + 1 ≤ 13194139537408 := by omega
  have HM := Lib.hid hm
  have HN := Lib.hid hn
  have H1 := Lib.hid h1
  have HNW := Lib.hid (hnew.mono h.low)
  have HW := Lib.hid hW
  have HSB := Lib.hid hsb
  have hlow := h1.low
  clear hst h h1 hm hn hW hnew hsb
  go_enter Try.func42, Try.ntmps42
  go_upto_region 1 with (fail)
  rw [← HW.out, ← HSB.out]
  go_wp2
  go_region_law
    (first
      | (refine wanted_plain rfl (wp_append_itemL (.tmp 18) (.tmp 26) rfl (.slice Ai t.length ci) B t (k, (m : Int)) W.heap.size (by simp [Act.eval, HN.out]) (by simp [Act.eval]) ?_ ?_ ?_ ?_ ?_)
         · exact (H1.out.its.drew.alloc _)
         · exact heap_alloc_new _ _
         · exact ht
         · simp; omega
         intro A3 c3 w3 ho3 hg3 hl3
         obtain ⟨hm3, hm4, hW3, hB3⟩ := H1.out.pushed _ HM.out ho3 hg3 hl3
         have HW3 := Lib.hid hW3
         have HB3 := Lib.hid hB3
         clear ho3 hg3 hl3 hW3 hB3
         obtain ⟨p0, p1, _, pf⟩ := WT.cells hm3
         rw [← HN.out] at p0
         have f3 := pf 0
         obtain ⟨_, q1, _, qf⟩ := WT.cells hm4
         have f4 := qf 1
         clear pf qf hm3 hm4))
  all_goals
    go_wp2
    go_end0
    obtain rfl := HM.out
    exact SteppedW.of HST.out (by rw [List.append_nil]; exact HW3.out) (HNW.out.trans HB3.out)
end Go.Proofs.Ytpjdpcpcfcohiaa
