/-
  The methods Push of impl's type queue and gone of its type desk, walked; heap.Push where the method Push is known at one call. Conditions: memory holds what they read; the lists that grow stay within what append can bear.
-/
import Derived.Test.YtpjdpcpcfcohiaaQueueH
import Derived.Test.YtpjdpcpcfcohiaaItemB
namespace Go.Proofs.Ytpjdpcpcfcohiaa
open Go.RowKit Go.Shelf
open Hp (g swp Ev ix nums QV ltQ)

section
variable {T : TypeId} {rv : Value} {α : Type} [Inhabited α] {lt : α → α → Bool} {M : Nat} {R : List α → List Ev → World → Prop}
set_option maxHeartbeats 1000000 in
set_option maxRecDepth 100000 in
/-- heap.Push, where the one call of the method Push is known. -/
theorem push_at (H : HI T rv lt M R) (l : List α) (tr1 : List Ev) (x : α) (xv : Value) (w : World) (hs0 : l.length < 4611686018427387904)
    (hp : ∃ f v, (method 204 T rv "Push").run Try.prog w = .ok (f, v) w ∧ (∀ args w, (callFunc f args).run Try.prog w = .ok (.enter f args) w) ∧ Calls Try.prog f #[v, xv] w fun e w' => e = .returned (.tuple #[]) ∧ R (l ++ [x]) tr1 w')
    (hM : tr1.length + (Hp.upCalls lt (l ++ [x]) l.length).length ≤ M) :
    Calls Try.prog 44 #[.iface T rv, xv] w fun e w' => e = .returned (.tuple #[]) ∧ R (Hp.push lt l x) (tr1 ++ Hp.upCalls lt (l ++ [x]) l.length) w' := by
  obtain ⟨f0, v0, hm0, he0, hc0⟩ := hp
  have lens : ∀ (w1 : World), R (l ++ [x]) tr1 w1 → ∃ f v, (method 204 T rv "Len").run Try.prog w1 = .ok (f, v) w1 ∧ (∀ args w, (callFunc f args).run Try.prog w = .ok (.enter f args) w) ∧
      Calls Try.prog f #[v] w1 fun e w' => e = .returned (.int .i64 ((l.length : Int) + 1)) ∧ R (l ++ [x]) tr1 w' := by
    intro w1 h1
    have h2 := H.len _ _ _ h1
    rwa [List.length_append, show (((l.length + [x].length : Nat)) : Int) = (l.length : Int) + 1 by simp] at h2
  have LENS := Lib.hid lens
  have HM := Lib.hid hM
  clear lens hM
  go_enter Try.func44, Try.ntmps44
  go_wp2_with (first
    | (go_at_fn f0; refine hc0.mono ?_; rintro e w0 ⟨rfl, hR0⟩; obtain ⟨f1, v1, hm1, he1, hc1⟩ := LENS.out w0 hR0; clear hm0 he0 hc0)
    | (go_at_fn f1; refine hc1.mono ?_; rintro e w1 ⟨rfl, hR1⟩; have hc2 := up_any H _ _ l.length w1 hR1 (by simp) HM.out; clear hm1 he1 hc1)
    | (go_at_call 52; refine hc2.mono ?_; rintro e w2 ⟨rfl, hR2⟩))
  go_end0
  exact ⟨rfl, hR2⟩
end

theorem info_ptr : (Try.prog.info? 67).map (fun i => (i.zero, i.size, i.bytes)) = some (some (.pointer none), 1, 8) := by kernel_rfl
/-- append of one pointer onto an own slice, and where the new slice lies. -/
theorem run_append_ptr {t : TypeId} (ht : Try.prog.underlying t = some (.slice 67)) {w : World} {B : Nat} {u : Value} {n : Nat} {xs : List Value} (hown : w.ownsRow B 67 1 u n xs) (e : Nat) (gs : Nat) (hg : w.heap[gs]? = some (.cells #[ptr e] 67 (0, 0)))
    (hn : n + 1 ≤ 26388279066624) (hB : B ≤ w.heap.size) (ty : TypeId) :
    ∃ A' c' w', (Builtin.append_ #[t, t] ty #[u, .slice (some ⟨gs, 0, none⟩) 1 1]).run Try.prog w = .ok (.slice A' (n + 1) c') w' ∧ w'.ownsRow B 67 1 (.slice A' (n + 1) c') (n + 1) (xs ++ [ptr e]) ∧ w.grownBy w' u.ownBlock ∧
      ((Value.slice A' (n + 1) c').ownBlock = u.ownBlock ∨ (Value.slice A' (n + 1) c').ownBlock = some w.heap.size) := by
  obtain ⟨i0, hi, hz0, hz1, hz2⟩ := info_parts info_ptr
  obtain ⟨v', w', hr, h2, h3, h4⟩ := run_append_wide_at (P := Try.prog) w B t ty 67 i0 _ 1 8 ht hi hz0 hz1 hz2 rfl (by decide) u n xs hown
    ⟨gs, 0, none⟩ 1 1 [ptr e] rfl (World.news_of_block (cs := #[ptr e]) (t := 67) (fr := (0, 0)) hg) (by simp [ptr, Value.oneCell']) (by simp only [maxLen]; omega) (wide_fits8 hn) hB
  obtain ⟨A', c', rfl⟩ := own_slice h2
  exact ⟨A', c', w', hr, h2, h3, h4⟩
theorem wp_append_ptr {t : TypeId} (ht : Try.prog.underlying t = some (.slice 67)) {w : World} {o : Oper} {a : Act} {K : Act → World → Prop} {Q : Exit → Act → World → Prop} (s x : Operand)
    (ho : o.op = .call { callee := .builtin .append, args := #[s, x], argTypes := #[t, t] }) (u : Value) (B n : Nat) (xs : List Value) (e : Nat) (gs : Nat) (hs : a.eval s = u) (hx : a.eval x = .slice (some ⟨gs, 0, none⟩) 1 1)
    (hown : w.ownsRow B 67 1 u n xs) (hg : w.heap[gs]? = some (.cells #[ptr e] 67 (0, 0))) (hn : n + 1 ≤ 26388279066624) (hB : B ≤ w.heap.size)
    (h : ∀ A' c' w', w'.ownsRow B 67 1 (.slice A' (n + 1) c') (n + 1) (xs ++ [ptr e]) → w.grownBy w' u.ownBlock → ((Value.slice A' (n + 1) c').ownBlock = u.ownBlock ∨ (Value.slice A' (n + 1) c').ownBlock = some w.heap.size) → K (a.put o.dst (.slice A' (n + 1) c')) w') : o.wp Try.prog a w K Q := by
  obtain ⟨A', c', w', hr, h1, h2, h3⟩ := run_append_ptr ht hown e gs hg hn hB o.type
  exact wp_append_run s x _ ho _ _ _ _ hs hx hr (h A' c' w' h1 h2 h3)

theorem frm_grown {X : Nat → Prop} {a b c : World} {row : Option Nat} (h : Frm X a b) (hg : b.grownBy c row) (hr : ∀ k, row = some k → X k) : Frm X a c := h.next (Frm.of_grown (X := X) hg hr) (fun _ _ e => e)

theorem push_noteQ {B db e1 : Nat} {v va vo v' : Value} {n m : Nat} {xs ys : List Value} {k1 n1 i1 : Int} {W w1 : World} (hbk : W.heap[db]? = some (DK v va vo)) (ho : W.ownsRow B 67 1 v n xs) (hx : W.heap[e1]? = some (EC k1 n1 i1)) (o : Obj)
    (h1 : w1.ownsRow B 67 1 v' m ys) (hg : (W.drew.alloc o).grownBy w1 v.ownBlock) (hl : v'.ownBlock = v.ownBlock ∨ v'.ownBlock = some (W.drew.alloc o).heap.size) :
    w1.heap[db]? = some (DK v va vo) ∧ (w1.setCell ⟨db, 0, none⟩ v').heap[db]? = some (DK v' va vo) ∧ (w1.setCell ⟨db, 0, none⟩ v').ownsRow B 67 1 v' m ys ∧ (w1.setCell ⟨db, 0, none⟩ v').heap[e1]? = some (EC k1 n1 i1) ∧
      Frm (fun i => i = db ∨ v.ownBlock = some i) W (w1.setCell ⟨db, 0, none⟩ v') ∧ Lies W v v' := by
  have hlt := lt_of_block hbk
  have hlx := lt_of_block hx
  have hne := own_ne ho hbk (by decide)
  have hnx := own_ne ho hx (by decide)
  have hde : e1 ≠ db := by
    intro e
    rw [e, hbk] at hx
    unfold DK EC at hx
    injection hx with hx
    injection hx with _ ht
    exact absurd ht (by decide)
  have hb1 : w1.heap[db]? = some (DK v va vo) := by
    rw [hg.block db (by simp; omega) (Ne.symm hne)]
    exact (Below.heap_alloc W.drew o db hlt).trans hbk
  refine ⟨hb1, DK.set0 hb1 _, ownsRow_setCell_other h1 (own_ne h1 hb1 (by decide)) _, ?_, ?_, Lies.of_or (w := W.drew.alloc o) hl (by simp)⟩
  · rw [Below.heap_setCell _ _ _ _ hde, hg.block e1 (by simp; omega) (Ne.symm hnx)]
    exact (Below.heap_alloc W.drew o e1 hlx).trans hx
  · exact Frm.setCell (X := fun i => i = db ∨ v.ownBlock = some i) (p := ⟨db, 0, none⟩) (frm_grown ((Frm.refl _ W).drew.alloc o) hg (fun k hk => .inr hk)) (.inl rfl) _

set_option maxHeartbeats 2000000 in
set_option maxRecDepth 100000 in
theorem queue_push {B db e1 : Nat} {v va vo : Value} {n : Nat} {xs : List Value} {k1 n1 i1 : Int} {w : World} (hbk : w.heap[db]? = some (DK v va vo)) (ho : w.ownsRow B 67 1 v n xs) (hx : w.heap[e1]? = some (EC k1 n1 i1)) (hlow : B ≤ w.heap.size) (hn : n + 1 ≤ 26388279066624) :
    Calls Try.prog 74 #[.pointer (some ⟨db, 0, none⟩), .iface 67 (ptr e1)] w fun e w' => e = .returned (.tuple #[]) ∧
      ∃ v', w'.heap[db]? = some (DK v' va vo) ∧ w'.ownsRow B 67 1 v' (n + 1) (xs ++ [ptr e1]) ∧ w'.heap[e1]? = some (EC k1 n1 (n : Int)) ∧ Frm (fun i => i = db ∨ v.ownBlock = some i ∨ i = e1) w w' ∧ Lies w v v' := by
  have hde : db ≠ e1 := by
    intro e
    rw [← e, hbk] at hx
    unfold DK EC at hx
    injection hx with hx
    injection hx with _ ht
    exact absurd ht (by decide)
  have hnx := own_ne ho hx (by decide)
  obtain ⟨A1, c1, rfl⟩ := own_slice ho
  obtain ⟨k0, _, _, kf⟩ := DK.cells hbk
  obtain ⟨_, _, x2, xf⟩ := EC.cells hx
  have xf2 := xf 2
  obtain ⟨W, hW⟩ : ∃ W, W = (w.setCell ⟨e1, 2, none⟩ (.int .i64 (n : Int))).drew := ⟨_, rfl⟩
  have hbW : W.heap[db]? = some (DK (.slice A1 n c1) va vo) := by rw [hW]; exact (Below.heap_setCell _ _ _ _ hde).trans hbk
  have hoW : W.ownsRow B 67 1 (.slice A1 n c1) n xs := by rw [hW]; exact (ownsRow_setCell_other (a := ⟨e1, 2, none⟩) ho hnx _).drew
  have hxW : W.heap[e1]? = some (EC k1 n1 (n : Int)) := by rw [hW]; exact EC.index hx _
  have hfW : Frm (fun i => i = db ∨ (Value.slice A1 n c1).ownBlock = some i ∨ i = e1) w W := by rw [hW]; exact ((Frm.refl _ w).setCell (p := ⟨e1, 2, none⟩) (.inr (.inr rfl)) _).drew
  have hlW : B ≤ W.heap.size := Nat.le_trans hlow hfW.size
  have kW := (DK.cells hbW).1
  have hltW := lt_of_block hbW
  have HBW := Lib.hid hbW
  have HOW := Lib.hid hoW
  have HXW := Lib.hid hxW
  have HFW := Lib.hid hfW
  have HW := Lib.hid hW
  have hta := run_assert_entry
  clear hbk ho hx hbW hoW hxW hfW hW hnx xf kf
  unfold ptr
  go_enter Try.func74, Try.ntmps74
  go_wp2
  go_region
  go_wp2
  rw [← HW.out]
  clear k0 x2 xf2
  go_region_law
    (first
      | (refine wanted_plain rfl (wp_append_ptr Try.underlying60 (.tmp 15) (.tmp 18) rfl (.slice A1 n c1) B n xs e1 W.heap.size (by simp [Act.eval]) (by simp [Act.eval]) ?_ ?_ ?_ ?_ ?_)
         · exact (HOW.out.drew.alloc _)
         · exact heap_alloc_new _ _
         · exact hn
         · simp; omega
         intro A3 c3 w3 ho3 hg3 hl3
         obtain ⟨hm3, hW3, hO3, hX3, hB3, hL3⟩ := push_noteQ HBW.out HOW.out HXW.out _ ho3 hg3 hl3
         have HW3 := Lib.hid hW3
         have HO3 := Lib.hid hO3
         have HX3 := Lib.hid hX3
         have HB3 := Lib.hid hB3
         have HL3 := Lib.hid hL3
         clear hl3 hL3 ho3 hg3 hW3 hO3 hX3 hB3
         obtain ⟨k3, _, _, kf3⟩ := DK.cells hm3
         have f3 := kf3 0
         clear kf3))
  all_goals
    go_end0
    refine ⟨rfl, _, HW3.out, HO3.out, HX3.out, HFW.out.next HB3.out ?_, ?_⟩
    · rintro i _ (e | e)
      · exact .inl e
      · exact .inr (.inl e)
    · intro k hk
      rcases HL3.out k hk with e | e
      · exact .inl e
      · exact .inr (Nat.le_trans HFW.out.size e)
end Go.Proofs.Ytpjdpcpcfcohiaa
