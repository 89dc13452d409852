/-
  impl.place and impl.step: what they return and what they leave. Conditions: memory holds the heap and the list of what was returned so far (HS); the heap stays within what append can bear.
-/
import Derived.Test.YtadacjndepkfeaaItemsF
import Derived.Test.YtadacjndepkfeaaWith
import Derived.Test.YtadacjndepkfeaaHeapInit
import Derived.Test.YtadacjndepkfeaaHeapFix
import Derived.Test.YtadacjndepkfeaaHeapRem
import Derived.Test.YtadacjndepkfeaaHeapPop
import Derived.Test.YtadacjndepkfeaaPlainS
import Derived.Test.YtadacjndepkfeaaImplFix
namespace Go.Proofs.Ytadacjndepkfeaa
open Go.RowKit Go.Shelf
open Hp (g swp Ev St plc)

def mkI (k t : Int) : It := (k, t)
abbrev stpI := Hp.stp ltK mkI

theorem place_any (w : World) (k : Int) (n : Nat) (hn : 0 < n) (hs : n < 4611686018427387904) :
    Calls Try.prog 44 #[.int .i64 k, .int .i64 (n : Int)] w fun e w' => e = .returned (.int .i64 (plc k n : Nat)) ∧ w = w' := by
  have h1 := Int.tmod_lt_of_pos k (show (0 : Int) < n by omega)
  have h2 := Int.lt_tmod_of_pos k (show (0 : Int) < n by omega)
  have h3 : (k.tmod n + n) % n = ((plc k n : Nat) : Int) := by rw [← Int.tmod_eq_emod_of_nonneg (a := k.tmod n + n) (by omega)]; exact Hp.plc_tmod k hn
  have H3 := Lib.hid h3
  clear h3
  have h4 : ((n : Int) == 0) = false := by simp; omega
  go_enter Try.func44, Try.ntmps44
  go_wp2
  go_ret
  exact ⟨by rw [← H3.out]; rfl, rfl⟩

/-- append of one item onto an own slice, and where the new slice lies. -/
theorem wp_append_item_at {w : World} {o : Oper} {a : Act} {K : Act → World → Prop} {Q : Exit → Act → World → Prop} (s x : Operand)
    (ho : o.op = .call { callee := .builtin .append, args := #[s, x], argTypes := #[25, 25] }) (u : Value) (B : Nat) (l : List It) (y : It) (gs : Nat) (hs : a.eval s = u) (hx : a.eval x = .slice (some ⟨gs, 0, none⟩) 1 1)
    (hown : w.ownsRow B 36 2 u l.length (cls l)) (hg : w.heap[gs]? = some (.cells #[.int .i64 y.1, .int .i64 y.2] 36 (0, 0)))
    (hn : (l.length + 1) * 16 ≤ 211106232598528) (hB : B ≤ w.heap.size)
    (h : ∀ A' c' w', w'.ownsRow B 36 2 (.slice A' (l.length + 1) c') (l.length + 1) (cls (l ++ [y])) → w.grownBy w' u.ownBlock → ((Value.slice A' (l.length + 1) c').ownBlock = u.ownBlock ∨ (Value.slice A' (l.length + 1) c').ownBlock = some w.heap.size) → K (a.put o.dst (.slice A' (l.length + 1) c')) w') : o.wp Try.prog a w K Q := by
  obtain ⟨i0, hi, hz0, hz1, hz2⟩ := info_parts info_item
  obtain ⟨v', w', hr, h2, h3, h4⟩ := run_append_wide_at (P := Try.prog) w B 25 o.type 36 i0 _ 2 16 Try.underlying25 hi hz0 hz1 hz2 rfl (by decide) u l.length (cls l) hown
    ⟨gs, 0, none⟩ 1 1 [.int .i64 y.1, .int .i64 y.2] rfl (World.news_of_block (cs := #[.int .i64 y.1, .int .i64 y.2]) (t := 36) (fr := (0, 0)) hg) (by simp [Value.oneCell']) (by simp only [maxLen]; omega) (wide_fits16 hn) hB
  obtain ⟨A', c', rfl⟩ := own_slice h2
  exact wp_append_run s x _ ho _ _ _ _ hs hx hr (h A' c' w' (by rw [cls_append]; exact h2) h3 h4)
theorem wpList_append_item_at {w : World} {ops : Array Oper} {rest : List Oper} {o : Oper} {a : Act} {Q : Exit → Act → World → Prop} (hgd : o.guard = none) (s x : Operand)
    (ho : o.op = .call { callee := .builtin .append, args := #[s, x], argTypes := #[25, 25] }) (u : Value) (B : Nat) (l : List It) (y : It) (gs : Nat) (hs : a.eval s = u) (hx : a.eval x = .slice (some ⟨gs, 0, none⟩) 1 1)
    (hown : w.ownsRow B 36 2 u l.length (cls l)) (hg : w.heap[gs]? = some (.cells #[.int .i64 y.1, .int .i64 y.2] 36 (0, 0)))
    (hn : (l.length + 1) * 16 ≤ 211106232598528) (hB : B ≤ w.heap.size)
    (h : ∀ A' c' w', w'.ownsRow B 36 2 (.slice A' (l.length + 1) c') (l.length + 1) (cls (l ++ [y])) → w.grownBy w' u.ownBlock → ((Value.slice A' (l.length + 1) c').ownBlock = u.ownBlock ∨ (Value.slice A' (l.length + 1) c').ownBlock = some w.heap.size) → wpList Try.prog ops Q rest (a.put o.dst (.slice A' (l.length + 1) c')) w') : wpList Try.prog ops Q (o :: rest) a w :=
  wpList_plain hgd fun _ hK => wp_append_item_at s x ho u B l y gs hs hx hown hg hn hB fun A' c' w' h1 h2 h3 => hK _ _ (h A' c' w' h1 h2 h3)

/-- The heap of a script and the list of what was returned so far. -/
structure HS (B : Nat) (w : World) (hb : Nat) (vh vo : Value) (l o : List It) : Prop where
  box : w.heap[hb]? = some (.cells #[vh] 52 (0, 0))
  heap : w.ownsRow B 36 2 vh l.length (cls l)
  out : w.ownsRow B 36 2 vo o.length (cls o)
  apart : ∀ k, vh.ownBlock = some k → vo.ownBlock ≠ some k
  low : B ≤ w.heap.size

/-- The blocks that a step may change. -/
def SX (hb : Nat) (vh vo : Value) (i : Nat) : Prop := i = hb ∨ vh.ownBlock = some i ∨ vo.ownBlock = some i

/-- What a step leaves. -/
def StepPost (B : Nat) (w : World) (hb : Nat) (vh vo : Value) (l o : List It) (e : Ending) (w' : World) : Prop :=
  ∃ vh' vo', e = .returned vo' ∧ HS B w' hb vh' vo' l o ∧ Frm (SX hb vh vo) w w' ∧ Lies w vh vh' ∧ Lies w vo vo'

theorem HS.alloc {B : Nat} {w : World} {hb : Nat} {vh vo : Value} {l o : List It} (h : HS B w hb vh vo l o) (ob : Obj) : HS B (w.alloc ob) hb vh vo l o :=
  ⟨(Below.heap_alloc w ob hb (lt_of_block h.box)).trans h.box, h.heap.alloc _, h.out.alloc _, h.apart, by have := h.low; simp; omega⟩
theorem HS.drew {B : Nat} {w : World} {hb : Nat} {vh vo : Value} {l o : List It} (h : HS B w hb vh vo l o) : HS B w.drew hb vh vo l o := ⟨h.box, h.heap.drew, h.out.drew, h.apart, h.low⟩
theorem HS.drewN {B : Nat} {w : World} {hb : Nat} {vh vo : Value} {l o : List It} (h : HS B w hb vh vo l o) (q : Nat) : HS B (w.drewN q) hb vh vo l o := ⟨h.box, ownsRow_drewN h.heap q, ownsRow_drewN h.out q, h.apart, h.low⟩
theorem RJ.begin {B : Nat} {w : World} {hb : Nat} {vh : Value} {N : Nat} {l : List It} (hbk : w.heap[hb]? = some (.cells #[vh] 52 (0, 0))) (ho : w.ownsRow B 36 2 vh l.length (cls l)) (hl : l.length ≤ N) (hN : N < 4611686018427387904) :
    RJ B w hb vh N l [] w := ⟨⟨vh, hbk, ho, Lies.refl _ _⟩, Frm.refl _ _, hl, hN⟩

theorem RJ.stored {B : Nat} {w : World} {hb gb c : Nat} {N : Nat} {l : List It} (hbk : w.heap[hb]? = some (.cells #[.slice (some ⟨gb, 0, none⟩) l.length c] 52 (0, 0))) (ho : w.ownsRow B 36 2 (.slice (some ⟨gb, 0, none⟩) l.length c) l.length (cls l))
    (hl : l.length ≤ N) (hN : N < 4611686018427387904) (p : Nat) (hp : p < l.length) (x : It) :
    RJ B w hb (.slice (some ⟨gb, 0, none⟩) l.length c) N (l.set p x) [] ((w.setCell ⟨gb, p * 2, none⟩ (.int .i64 x.1)).setCell ⟨gb, p * 2 + 1, none⟩ (.int .i64 x.2)) := by
  have hne : ¬ hb = gb := fun e => own_ne ho hbk (by decide) (by rw [e]; rfl)
  refine ⟨⟨_, ?_, ?_, Lies.refl _ _⟩, ?_, by simpa using hl, hN⟩
  · rw [Below.heap_setCell _ _ _ _ hne, Below.heap_setCell _ _ _ _ hne]
    exact hbk
  · rw [List.length_set]
    exact own_store ho rfl p hp x
  · exact Frm.setCell (X := HX hb _) (p := ⟨gb, p * 2 + 1, none⟩) (Frm.setCell (X := HX hb _) (p := ⟨gb, p * 2, none⟩) (Frm.refl _ w) (.inr rfl) _) (.inr rfl) _

theorem HS.moved {B : Nat} {w w1 w2 : World} {hb : Nat} {vh vo : Value} {l l' o : List It} {N : Nat} {tr : List Ev} (h : HS B w hb vh vo l o) (hw : Below w.heap.size w w1) (hr : RJ B w1 hb vh N l' tr w2) :
    ∃ vh', HS B w2 hb vh' vo l' o ∧ Frm (HX hb vh) w w2 ∧ Lies w vh vh' := by
  obtain ⟨v, hv, ho, hl⟩ := hr.own
  have hf : Frm (HX hb vh) w w2 := (Frm.of_new hw).next hr.frm (fun _ _ h => h)
  refine ⟨v, ⟨hv, ho, own_frm h.out hf ?_, ?_, Nat.le_trans h.low hf.size⟩, hf, fun k hk => (hl k hk).imp id (Nat.le_trans hw.size)⟩
  · intro k hk hx
    rcases hx with hx | hx
    · exact own_ne h.out h.box (by decide) (by rw [hk, hx])
    · exact h.apart k hx hk
  · intro k hk hok
    rcases hl k hk with h1 | h1
    · exact h.apart k h1 hok
    · have h2 := (h.out.lt k hok).2
      have := hw.size
      omega

theorem HS.pushed {B : Nat} {w w3 w4 : World} {hb : Nat} {vh vo vo' : Value} {l o : List It} {x : It} (h : HS B w hb vh vo l o) (hw : Below w.heap.size w w3) (ho : w4.ownsRow B 36 2 vo' (o.length + 1) (cls (o ++ [x]))) (hg : w3.grownBy w4 vo.ownBlock)
    (hl : vo'.ownBlock = vo.ownBlock ∨ vo'.ownBlock = some w3.heap.size) : HS B w4 hb vh vo' l (o ++ [x]) ∧ Frm (fun k => vo.ownBlock = some k) w w4 ∧ Lies w vo vo' := by
  have hf : Frm (fun k => vo.ownBlock = some k) w w4 := (Frm.of_new hw).next (Frm.of_grown (X := fun k => vo.ownBlock = some k) hg (fun _ e => e)) (fun _ _ h => h)
  have hL : Lies w vo vo' := Lies.of_or hl hw.size
  refine ⟨⟨?_, own_frm h.heap hf (fun k hk hx => h.apart k hk hx), by rw [List.length_append]; exact ho, ?_, Nat.le_trans h.low hf.size⟩, hf, hL⟩
  · rw [hf.block hb (lt_of_block h.box) (own_ne h.out h.box (by decide))]; exact h.box
  · intro k hk hok
    rcases hL k hok with h1 | h1
    · exact h.apart k hk h1
    · have h2 := (h.heap.lt k hk).2
      omega

theorem stepPost_moved {B : Nat} {w w1 w2 : World} {hb : Nat} {vh vo : Value} {l l' o : List It} {N : Nat} {tr : List Ev} (h : HS B w hb vh vo l o) (hw : Below w.heap.size w w1) (hr : RJ B w1 hb vh N l' tr w2) : StepPost B w hb vh vo l' (o ++ []) (.returned vo) w2 := by
  obtain ⟨vh', h1, h2, h3⟩ := h.moved hw hr
  rw [List.append_nil]
  exact ⟨vh', vo, rfl, h1, h2.mono (fun i _ e => e.elim .inl (fun e => .inr (.inl e))), h3, Lies.refl _ _⟩

theorem stepPost_pushed {B : Nat} {w w2 w3 w4 : World} {hb : Nat} {vh vh' vo vo' : Value} {l' o : List It} {x : It} (h1 : HS B w2 hb vh' vo l' o) (h2 : Frm (HX hb vh) w w2) (h3 : Lies w vh vh') (hw : Below w2.heap.size w2 w3)
    (ho : w4.ownsRow B 36 2 vo' (o.length + 1) (cls (o ++ [x]))) (hg : w3.grownBy w4 vo.ownBlock) {m : Nat} (hm : w3.heap.size = m) (hl : vo'.ownBlock = vo.ownBlock ∨ vo'.ownBlock = some m) : StepPost B w hb vh vo l' (o ++ [x]) (.returned vo') w4 := by
  subst hm
  obtain ⟨k1, k2, k3⟩ := h1.pushed hw ho hg hl
  refine ⟨vh', vo', rfl, k1, (h2.mono (fun i _ e => e.elim .inl (fun e => .inr (.inl e)))).next k2 (fun i _ e => .inr (.inr e)), h3, fun k hk => (k3 k hk).imp id (Nat.le_trans h2.size)⟩

section
variable {B : Nat} {w : World} {hb : Nat} {vh vo : Value} {l o : List It}
set_option maxHeartbeats 1000000 in
set_option maxRecDepth 100000 in
theorem step_init (h : HS B w hb vh vo l o) (hn : l.length < 4611686018427387904) (a k t : Int) :
    Calls Try.prog 45 #[.pointer (some ⟨hb, 0, none⟩), .agg #[.int .i64 5, .int .i64 a, .int .i64 k, .int .i64 t], vo] w (StepPost B w hb vh vo (Hp.init ltK l) (o ++ [])) := by
  have h1 := h.alloc (.cells #[.int .i64 5, .int .i64 a, .int .i64 k, .int .i64 t] 45)
  have H := Lib.hid h
  have HB := Lib.hid ((Below.refl w.heap.size w).alloc (Nat.le_refl _) (.cells #[.int .i64 5, .int .i64 a, .int .i64 k, .int .i64 t] 45))
  have HR := Lib.hid (RJ.begin h1.box h1.heap (Nat.le_refl _) hn)
  clear h h1
  go_enter Try.func45, Try.ntmps45
  go_wp2_with fail
  refine (init_any (items_HJ B _ hb vh l.length) l [] _ HR.out (Nat.le_refl _)).mono ?_
  rintro e w2 ⟨rfl, hR2⟩
  have HR2 := Lib.hid hR2
  clear hR2
  go_wp2
  go_ret
  exact stepPost_moved H.out HB.out HR2.out

set_option maxHeartbeats 1000000 in
set_option maxRecDepth 100000 in
theorem step_push (h : HS B w hb vh vo l o) (hn : (l.length + 1) * 16 ≤ 211106232598528) (a k t : Int) :
    Calls Try.prog 45 #[.pointer (some ⟨hb, 0, none⟩), .agg #[.int .i64 1, .int .i64 a, .int .i64 k, .int .i64 t], vo] w (StepPost B w hb vh vo (Hp.push ltK l (mkI k t)) (o ++ [])) := by
  have h1 := h.alloc (.cells #[.int .i64 1, .int .i64 a, .int .i64 k, .int .i64 t] 45)
  have H := Lib.hid h
  have HB := Lib.hid ((Below.refl w.heap.size w).alloc (Nat.le_refl _) (.cells #[.int .i64 1, .int .i64 a, .int .i64 k, .int .i64 t] 45))
  have HR := Lib.hid (RJ.begin (N := l.length + 1) h1.box h1.heap (Nat.le_succ _) (by omega))
  have HL := Lib.hid h1.low
  clear h h1
  go_enter Try.func45, Try.ntmps45
  go_wp2_with fail
  refine (push_any (items_HJ B _ hb vh (l.length + 1)) (items_HJPush B _ hb vh (l.length + 1) hn HL.out) l [] (mkI k t) _ HR.out (Nat.lt_succ_self _) (Nat.lt_succ_self _)).mono ?_
  rintro e w2 ⟨rfl, hR2⟩
  have HR2 := Lib.hid hR2
  clear hR2
  go_wp2
  go_ret
  exact stepPost_moved H.out HB.out HR2.out

set_option maxHeartbeats 1000000 in
set_option maxRecDepth 100000 in
/-- A step of another kind than Init and Push with an empty heap. -/
theorem step_none (h : HS B w hb vh vo l o) (hl : l.length = 0) (q a k t : Int) (h5 : ¬ q = 5) (h1 : ¬ q = 1) :
    Calls Try.prog 45 #[.pointer (some ⟨hb, 0, none⟩), .agg #[.int .i64 q, .int .i64 a, .int .i64 k, .int .i64 t], vo] w (StepPost B w hb vh vo l (o ++ [])) := by
  have hbb := (Below.refl w.heap.size w).alloc (Nat.le_refl _) (.cells #[.int .i64 q, .int .i64 a, .int .i64 k, .int .i64 t] 45)
  have HF := Lib.hid (Frm.of_new (X := SX hb vh vo) hbb)
  have HA := Lib.hid (h.alloc (.cells #[.int .i64 q, .int .i64 a, .int .i64 k, .int .i64 t] 45))
  obtain ⟨A, c, hv⟩ := own_slice h.heap
  subst hv
  rw [hl] at HF HA ⊢
  have hcell := cell_of_one h.box
  rw [hl] at hcell
  have hlt := lt_of_block h.box
  have hq5 : (q == 5) = false := by simpa using h5
  have hq1 : (q == 1) = false := by simpa using h1
  have HL := Lib.hid hl
  clear h h5 h1 hbb hl
  go_enter Try.func45, Try.ntmps45
  go_wp2
  go_ret
  rw [List.append_nil]
  exact ⟨_, vo, rfl, HA.out, HF.out, Lies.refl _ _, Lies.refl _ _⟩

set_option maxHeartbeats 1000000 in
set_option maxRecDepth 100000 in
/-- A step of no kind. -/
theorem step_other (h : HS B w hb vh vo l o) (hl : 0 < l.length) (q a k t : Int) (h5 : ¬ q = 5) (h1 : ¬ q = 1) (h2 : ¬ q = 2) (h3 : ¬ q = 3) (h4 : ¬ q = 4) :
    Calls Try.prog 45 #[.pointer (some ⟨hb, 0, none⟩), .agg #[.int .i64 q, .int .i64 a, .int .i64 k, .int .i64 t], vo] w (StepPost B w hb vh vo l (o ++ [])) := by
  have hbb := (Below.refl w.heap.size w).alloc (Nat.le_refl _) (.cells #[.int .i64 q, .int .i64 a, .int .i64 k, .int .i64 t] 45)
  have HF := Lib.hid (Frm.of_new (X := SX hb vh vo) hbb)
  have HA := Lib.hid (h.alloc (.cells #[.int .i64 q, .int .i64 a, .int .i64 k, .int .i64 t] 45))
  obtain ⟨A, c, hv⟩ := own_slice h.heap
  subst hv
  have hcell := cell_of_one h.box
  have hlt := lt_of_block h.box
  have hq5 : (q == 5) = false := by simpa using h5
  have hq1 : (q == 1) = false := by simpa using h1
  have hq2 : (q == 2) = false := by simpa using h2
  have hq3 : (q == 3) = false := by simpa using h3
  have hq4 : (q == 4) = false := by simpa using h4
  have hq0 : ((l.length : Int) == 0) = false := by simp; intro e; rw [e] at hl; simp at hl
  clear h h5 h1 hbb h2 h3 h4
  go_enter Try.func45, Try.ntmps45
  go_wp2
  go_ret
  rw [List.append_nil]
  exact ⟨_, vo, rfl, HA.out, HF.out, Lies.refl _ _, Lies.refl _ _⟩

set_option maxHeartbeats 1000000 in
set_option maxRecDepth 100000 in
theorem step_pop (h : HS B w hb vh vo l o) (hl : 0 < l.length) (hn : l.length < 4611686018427387904) (ho : (o.length + 1) * 16 ≤ 211106232598528) (a k t : Int) :
    Calls Try.prog 45 #[.pointer (some ⟨hb, 0, none⟩), .agg #[.int .i64 2, .int .i64 a, .int .i64 k, .int .i64 t], vo] w (StepPost B w hb vh vo (Hp.popD ltK l).dropLast (o ++ [g l 0])) := by
  have h1 := h.alloc (.cells #[.int .i64 2, .int .i64 a, .int .i64 k, .int .i64 t] 45)
  have H := Lib.hid h
  have HB := Lib.hid ((Below.refl w.heap.size w).alloc (Nat.le_refl _) (.cells #[.int .i64 2, .int .i64 a, .int .i64 k, .int .i64 t] 45))
  have HR := Lib.hid (RJ.begin h1.box h1.heap (Nat.le_refl _) hn)
  obtain ⟨Ah, ch, hv⟩ := own_slice h.heap
  subst hv
  obtain ⟨Ao, co, hvo⟩ := own_slice h.out
  subst hvo
  have hcell := cell_of_one h.box
  have hlt := lt_of_block h.box
  have hq0 : ((l.length : Int) == 0) = false := by simp; intro e; rw [e] at hl; simp at hl
  have hta := run_assert_item
  clear h h1
  go_enter Try.func45, Try.ntmps45
  go_wp2_with fail
  refine (pop_any (items_HJ B _ hb _ l.length) (items_HJPop B _ hb _ l.length) l [] _ HR.out hl (Nat.lt_succ_self _)).mono ?_
  obtain ⟨⟨x1, x2⟩, hx⟩ : ∃ x, g l 0 = x := ⟨_, rfl⟩
  rw [hx]
  have HGX := Lib.hid hx
  clear hx
  unfold encI
  rintro e w2 ⟨rfl, hR2⟩
  obtain ⟨vh', hh1, hh2, hh3⟩ := H.out.moved HB.out hR2
  have H1 := Lib.hid hh1
  have H2 := Lib.hid hh2
  have H3 := Lib.hid hh3
  clear hR2 hh1 hh2 hh3 hcell hlt
  go_wp2_with (at_builtin; refine wpList_append_item_at rfl _ _ rfl _ B o (x1, x2) w2.heap.size rfl rfl (H1.out.out.alloc _) (heap_alloc_new _ _) ho (by have := H1.out.low; simp; omega) ?_)
  intro A4 c4 w4 ho4 hg4 hl4
  have HO4 := Lib.hid ho4
  have HG4 := Lib.hid hg4
  have HL4 := Lib.hid hl4
  clear ho4 hg4 hl4
  go_wp2
  go_ret
  rw [HGX.out]
  exact stepPost_pushed H1.out H2.out H3.out ((Below.refl _ _).alloc (Nat.le_refl _) _) HO4.out HG4.out (heap_size_alloc _ _) HL4.out

set_option maxHeartbeats 2000000 in
set_option maxRecDepth 100000 in
theorem step_rem (h : HS B w hb vh vo l o) (hl : 0 < l.length) (hn : l.length < 4611686018427387904) (ho : (o.length + 1) * 16 ≤ 211106232598528) (a k t : Int) :
    Calls Try.prog 45 #[.pointer (some ⟨hb, 0, none⟩), .agg #[.int .i64 3, .int .i64 a, .int .i64 k, .int .i64 t], vo] w (StepPost B w hb vh vo (Hp.rem ltK l (plc a l.length)).dropLast (o ++ [g l (plc a l.length)])) := by
  have h1 := (h.alloc (.cells #[.int .i64 3, .int .i64 a, .int .i64 k, .int .i64 t] 45)).drew
  have H := Lib.hid h
  have HB := Lib.hid ((Below.refl w.heap.size w).alloc (Nat.le_refl _) (.cells #[.int .i64 3, .int .i64 a, .int .i64 k, .int .i64 t] 45)).drew
  have HR := Lib.hid (RJ.begin h1.box h1.heap (Nat.le_refl _) hn)
  obtain ⟨Ah, ch, hv⟩ := own_slice h.heap
  subst hv
  obtain ⟨Ao, co, hvo⟩ := own_slice h.out
  subst hvo
  have hcell := cell_of_one h.box
  have hlt := lt_of_block h.box
  have hq0 : ((l.length : Int) == 0) = false := by simp; intro e; rw [e] at hl; simp at hl
  have hpl := Lib.hid (Hp.plc_lt a hl)
  have hta := run_assert_item
  clear h h1
  go_enter Try.func45, Try.ntmps45
  go_wp2_with fail
  obtain ⟨⟨x1, x2⟩, hx⟩ : ∃ x, g l (plc a l.length) = x := ⟨_, rfl⟩
  have hc := remove_any (items_HJ B _ hb _ l.length) (items_HJPop B _ hb _ l.length) l [] (plc a l.length) _ HR.out hpl.out (Nat.lt_succ_self _)
  rw [hx] at hc
  unfold encI at hc
  have HC := Lib.hid hc
  have HGX := Lib.hid hx
  clear hx hc
  go_region_law
    (first
      | (refine wanted_plain rfl (wp_append_item_at (.tmp 49) (.tmp 61) rfl (.slice Ao o.length co) B o (x1, x2) w2.heap.size (by simp [Act.eval]) (by simp [Act.eval]) ?_ ?_ ?_ ?_ ?_)
         · exact H1.out.out.alloc _
         · exact heap_alloc_new _ _
         · exact ho
         · exact HLO.out
         intro A4 c4 w4 ho4 hg4 hl4
         have HO4 := Lib.hid ho4
         have HG4 := Lib.hid hg4
         have HL4 := Lib.hid hl4
         clear ho4 hg4 hl4)
      | (refine wanted_plain rfl ?_
         go_simp
         go_wp2_with (first
         | (go_at_call 44
            (with_reducible refine (place_any _ a l.length ?_ ?_).mono ?_)
            · exact hl
            · exact hn
            rintro e w' ⟨rfl, rfl⟩)
         | (go_at_call 40
            refine HC.out.mono ?_
            rintro e w2 ⟨rfl, hR2⟩
            obtain ⟨vh', hh1, hh2, hh3⟩ := H.out.moved HB.out hR2
            have H1 := Lib.hid hh1
            have H2 := Lib.hid hh2
            have H3 := Lib.hid hh3
            have HLO : Hid (B ≤ (w2.alloc (.cells #[.int .i64 x1, .int .i64 x2] 36)).heap.size) := by have := hh1.low; show _ ≤ _; simp; omega
            clear hR2 hh1 hh2 hh3))))
  all_goals
    go_wp2
    go_ret
    rw [HGX.out]
    exact stepPost_pushed H1.out H2.out H3.out ((Below.refl _ _).alloc (Nat.le_refl _) _) HO4.out HG4.out rfl HL4.out

set_option maxHeartbeats 2000000 in
set_option maxRecDepth 100000 in
theorem step_fix (h : HS B w hb vh vo l o) (hl : 0 < l.length) (hn : l.length < 4611686018427387904) (a k t : Int) :
    Calls Try.prog 45 #[.pointer (some ⟨hb, 0, none⟩), .agg #[.int .i64 4, .int .i64 a, .int .i64 k, .int .i64 t], vo] w (StepPost B w hb vh vo (Hp.fix ltK (l.set (plc a l.length) (mkI k t)) (plc a l.length)) (o ++ [])) := by
  have H := Lib.hid h
  have hpl := Hp.plc_lt a hl
  obtain ⟨Ah, ch, hv⟩ := own_slice h.heap
  subst hv
  obtain ⟨Ao, co, hvo⟩ := own_slice h.out
  subst hvo
  have hcell := cell_of_one h.box
  have hlt := lt_of_block h.box
  have hne := own_ne h.heap h.box (by decide)
  obtain ⟨gb, hA⟩ : ∃ gb, Ah = some ⟨gb, 0, none⟩ := by
    rcases h.heap.2 with ⟨_, h0⟩ | ⟨gb, cap, cur, hv, _⟩
    · omega
    · exact ⟨gb, by injection hv⟩
  subst hA
  have hgb : gb < w.heap.size := (h.heap.lt gb rfl).2
  obtain ⟨p, hp⟩ : ∃ p, p = plc a l.length := ⟨_, rfl⟩
  rw [← hp] at hpl ⊢
  have ci := (h.heap.cellAt (p * 2) (by omega)).trans (cls_at l p hpl).1
  have ci' := (h.heap.cellAt (p * 2 + 1) (by omega)).trans (cls_at l p hpl).2
  have hf := fun k => h.heap.frozenAt k
  have hq0 : ((l.length : Int) == 0) = false := by simp; intro e; rw [e] at hl; simp at hl
  have hgh : ¬ gb = hb := fun e => hne (by rw [e]; rfl)
  have HP := Lib.hid hp
  have HN := Lib.hid (fun n => HS.drewN (h.alloc (.cells #[.int .i64 4, .int .i64 a, .int .i64 k, .int .i64 t] 45)) n)
  have HB := Lib.hid (fun n => below_drewN ((Below.refl w.heap.size w).alloc (Nat.le_refl _) (.cells #[.int .i64 4, .int .i64 a, .int .i64 k, .int .i64 t] 45)) n)
  have hpc : ∀ W n, Calls Try.prog 44 #[.int .i64 a, .int .i64 (l.length : Int)] (World.drewN W n) fun e w'' => e = .returned (.int .i64 (p : Int)) ∧ ∃ m, w'' = World.drewN W m := by
    intro W n
    rw [hp]
    exact (place_any (World.drewN W n) a l.length hl hn).mono (fun _ _ h => ⟨h.1, n, h.2.symm⟩)
  have HPC := Lib.hid hpc
  clear h hne hp hpc
  go_enter Try.func45, Try.ntmps45
  go_wp2_with fail
  go_quiet ((go_at_call 44; exact HPC.out _ _))
  go_wp2_with fail
  go_region
  go_wp2_with fail
  have h1 := HN.out (nq + 1)
  refine (fix_any (items_HJ B _ hb _ l.length) _ [] p _ (RJ.stored h1.box h1.heap (Nat.le_refl _) hn p hpl (k, t)) (by simpa using hpl) (Nat.le_refl _)).mono ?_
  rintro e w2 ⟨rfl, hR2⟩
  have HR2 := Lib.hid hR2
  clear hR2 h1 hcell ci ci' hf
  go_wp2
  go_ret
  exact stepPost_moved H.out (HB.out (nq + 1)) HR2.out

/-- impl.step, whatever the step. -/
theorem step_any (h : HS B w hb vh vo l o) (hn : (l.length + 1) * 16 ≤ 211106232598528) (ho : (o.length + 1) * 16 ≤ 211106232598528) (s : St) :
    Calls Try.prog 45 #[.pointer (some ⟨hb, 0, none⟩), .agg #[.int .i64 s.1, .int .i64 s.2.1, .int .i64 s.2.2.1, .int .i64 s.2.2.2], vo] w (StepPost B w hb vh vo (stpI s l).1 (o ++ (stpI s l).2)) := by
  obtain ⟨q, a, k, t⟩ := s
  unfold stpI Hp.stp
  by_cases h5 : q = 5
  · subst h5
    rw [if_pos rfl]
    exact step_init h (by omega) a k t
  rw [if_neg h5]
  by_cases h1 : q = 1
  · subst h1
    rw [if_pos rfl]
    exact step_push h hn a k t
  rw [if_neg h1]
  by_cases h0 : l.length = 0
  · rw [if_pos h0]
    exact step_none h h0 q a k t h5 h1
  rw [if_neg h0]
  by_cases h2 : q = 2
  · subst h2
    rw [if_pos rfl]
    exact step_pop h (by omega) (by omega) ho a k t
  rw [if_neg h2]
  by_cases h3 : q = 3
  · subst h3
    rw [if_pos rfl]
    exact step_rem h (by omega) (by omega) ho a k t
  rw [if_neg h3]
  by_cases h4 : q = 4
  · subst h4
    rw [if_pos rfl]
    exact step_fix h (by omega) (by omega) a k t
  rw [if_neg h4]
  exact step_other h (by omega) q a k t h5 h1 h2 h3 h4
end
end Go.Proofs.Ytadacjndepkfeaa
