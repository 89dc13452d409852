/-
  Two rows of numbers in one variable (impl's type columns): how memory holds them; append of numbers. No conditions but those that each theorem names.
-/
import Derived.Test.YtadacjndepkfeaaKeys
import Derived.Test.YtadacjndepkfeaaRunA
namespace Go.Proofs.Ytadacjndepkfeaa
open Go.RowKit Go.Shelf
open Hp (g swp Ev)

theorem clsN_set (l : List Int) (i : Nat) (x : Int) : clsN (l.set i x) = (clsN l).set i (.int .i64 x) := by simp [clsN, List.map_set]
theorem clsN_dropLast (l : List Int) : clsN l.dropLast = (clsN l).take (l.length - 1) := by
  rw [List.dropLast_eq_take]; simp [clsN]
/-- append of one number onto an own slice, and where the new slice lies. -/
theorem run_append_int {w : World} {B : Nat} {u : Value} {l : List Int} (hown : w.ownsRow B 3 1 u l.length (clsN l)) (y : Int) (gs : Nat) (hg : w.heap[gs]? = some (.cells #[.int .i64 y] 3 (0, 0)))
    (hn : l.length + 1 ≤ 26388279066624) (hB : B ≤ w.heap.size) (ty : TypeId) :
    ∃ A' c' w', (Builtin.append_ #[47, 47] ty #[u, .slice (some ⟨gs, 0, none⟩) 1 1]).run Try.prog w = .ok (.slice A' (l.length + 1) c') w' ∧ w'.ownsRow B 3 1 (.slice A' (l.length + 1) c') (l.length + 1) (clsN (l ++ [y])) ∧ w.grownBy w' u.ownBlock ∧
      ((Value.slice A' (l.length + 1) c').ownBlock = u.ownBlock ∨ (Value.slice A' (l.length + 1) c').ownBlock = some w.heap.size) := by
  obtain ⟨i0, hi, hz0, hz1, hz2⟩ := info_parts info_int
  obtain ⟨v', w', hr, h2, h3, h4⟩ := run_append_wide_at (P := Try.prog) w B 47 ty 3 i0 _ 1 8 Try.underlying47 hi hz0 hz1 hz2 rfl (by decide) u l.length (clsN l) hown
    ⟨gs, 0, none⟩ 1 1 [.int .i64 y] rfl (World.news_of_block (cs := #[.int .i64 y]) (t := 3) (fr := (0, 0)) hg) (by simp [Value.oneCell']) (by simp only [maxLen]; omega) (wide_fits8 hn) hB
  obtain ⟨A', c', rfl⟩ := own_slice h2
  exact ⟨A', c', w', hr, by rw [clsN_append]; exact h2, h3, h4⟩
theorem wp_append_intC {w : World} {o : Oper} {a : Act} {K : Act → World → Prop} {Q : Exit → Act → World → Prop} (s x : Operand)
    (ho : o.op = .call { callee := .builtin .append, args := #[s, x], argTypes := #[47, 47] }) (u : Value) (B : Nat) (l : List Int) (y : Int) (gs : Nat) (hs : a.eval s = u) (hx : a.eval x = .slice (some ⟨gs, 0, none⟩) 1 1)
    (hown : w.ownsRow B 3 1 u l.length (clsN l)) (hg : w.heap[gs]? = some (.cells #[.int .i64 y] 3 (0, 0))) (hn : l.length + 1 ≤ 26388279066624) (hB : B ≤ w.heap.size)
    (h : ∀ A' c' w', w'.ownsRow B 3 1 (.slice A' (l.length + 1) c') (l.length + 1) (clsN (l ++ [y])) → w.grownBy w' u.ownBlock → ((Value.slice A' (l.length + 1) c').ownBlock = u.ownBlock ∨ (Value.slice A' (l.length + 1) c').ownBlock = some w.heap.size) → K (a.put o.dst (.slice A' (l.length + 1) c')) w') : o.wp Try.prog a w K Q := by
  obtain ⟨A', c', w', hr, h1, h2, h3⟩ := run_append_int hown y gs hg hn hB o.type
  exact wp_append_run s x _ ho _ _ _ _ hs hx hr (h A' c' w' h1 h2 h3)
theorem own_popN {w : World} {B gb n c : Nat} {l : List Int} (h : w.ownsRow B 3 1 (.slice (some ⟨gb, 0, none⟩) (n + 1) c) (n + 1) (clsN l)) (hl : l.length = n + 1) :
    w.ownsRow B 3 1 (.slice (some ⟨gb, 0, none⟩) n c) n (clsN l.dropLast) := by
  refine ⟨by rw [length_clsN, List.length_dropLast, hl]; omega, ?_⟩
  rcases h.2 with ⟨hv, h0⟩ | ⟨g', cap, cur, hv, hb, hh, hnc, hcm, hcs, ht⟩
  · omega
  · injection hv with hv1 _ hv3
    injection hv1 with hv1
    injection hv1 with hv1 _ _
    subst hv1
    subst hv3
    refine .inr ⟨gb, c, cur, rfl, hb, hh, by omega, hcm, hcs, ?_⟩
    rw [clsN_dropLast, hl, ← ht, List.take_take, Nat.add_sub_cancel, Nat.min_eq_left (by omega), Nat.mul_one]

/-- The block of a variable of the type columns. -/
def CB (vk vt : Value) : Obj := .cells #[vk, vt] 63 (0, 0)
theorem CB.cells {w : World} {b : Nat} {vk vt : Value} (h : w.heap[b]? = some (CB vk vt)) : w.cell? ⟨b, 0, none⟩ = some vk ∧ w.cell? ⟨b, 1, none⟩ = some vt ∧ ∀ j, w.frozen? ⟨b, j, none⟩ = false := by
  unfold CB at h
  exact ⟨by simp [World.cell?, h], by simp [World.cell?, h], fun j => by simp [World.frozen?, h]⟩
theorem heap_setCell_same2 (w : World) (b i : Nat) (cs : Array Value) (t : TypeId) (fr : Nat × Nat) (u : Value) (h : w.heap[b]? = some (.cells cs t fr)) : (w.setCell ⟨b, i, none⟩ u).heap[b]? = some (.cells (cs.setIfInBounds i u) t fr) := by
  have hlt := lt_of_block h
  have h' : w.heap[b] = .cells cs t fr := by simpa [Array.getElem?_eq_getElem hlt] using h
  show (w.heap.modify b _)[b]? = _
  rw [Array.getElem?_eq_getElem (by simpa using hlt), Array.getElem_modify_self, h']
  rfl
theorem CB.set0 {w : World} {b : Nat} {vk vt : Value} (h : w.heap[b]? = some (CB vk vt)) (u : Value) : (w.setCell ⟨b, 0, none⟩ u).heap[b]? = some (CB u vt) := by
  unfold CB at h ⊢
  rw [heap_setCell_same2 _ _ _ _ _ _ _ h]
  rfl
theorem CB.set1 {w : World} {b : Nat} {vk vt : Value} (h : w.heap[b]? = some (CB vk vt)) (u : Value) : (w.setCell ⟨b, 1, none⟩ u).heap[b]? = some (CB vk u) := by
  unfold CB at h ⊢
  rw [heap_setCell_same2 _ _ _ _ _ _ _ h]
  rfl

/-- The blocks of a variable of the type columns. -/
def KX (hb : Nat) (vk vt : Value) (i : Nat) : Prop := i = hb ∨ vk.ownBlock = some i ∨ vt.ownBlock = some i
/-- What memory holds of a variable of the type columns: the row of keys, the row of tags. -/
structure KS (B : Nat) (w : World) (hb : Nat) (vk vt : Value) (K T : List Int) : Prop where
  box : w.heap[hb]? = some (CB vk vt)
  ks : w.ownsRow B 3 1 vk K.length (clsN K)
  ts : w.ownsRow B 3 1 vt T.length (clsN T)
  apart : ∀ k, vk.ownBlock = some k → vt.ownBlock ≠ some k
  low : B ≤ w.heap.size
  base : B ≤ hb

theorem KX.next {w w1 w2 : World} {hb : Nat} {vk vt vk1 vt1 : Value} (h : Frm (KX hb vk vt) w w1) (h2 : Frm (KX hb vk1 vt1) w1 w2) (l1 : Lies w vk vk1) (l2 : Lies w vt vt1) : Frm (KX hb vk vt) w w2 :=
  h.next h2 (fun i hi e => by
    rcases e with e | e | e
    · exact .inl e
    · rcases l1 i e with h1 | h1
      · exact .inr (.inl h1)
      · omega
    · rcases l2 i e with h1 | h1
      · exact .inr (.inr h1)
      · omega)

section
variable {B : Nat} {w w1 w2 : World} {hb : Nat} {vk vt : Value} {K T : List Int}
theorem KS.lt (h : KS B w hb vk vt K T) : hb < w.heap.size := lt_of_block h.box
theorem KS.drewN (h : KS B w hb vk vt K T) (q : Nat) : KS B (w.drewN q) hb vk vt K T := ⟨h.box, ownsRow_drewN h.ks q, ownsRow_drewN h.ts q, h.apart, h.low, h.base⟩
theorem KS.new (h : KS B w hb vk vt K T) (hw : Below w.heap.size w w1) : KS B w1 hb vk vt K T := by
  have f : ∀ X, Frm X w w1 := fun X => Frm.of_new hw
  exact ⟨by rw [hw.block hb h.lt]; exact h.box, own_frm (X := fun _ => False) h.ks (f _) (fun _ _ e => e), own_frm (X := fun _ => False) h.ts (f _) (fun _ _ e => e), h.apart, Nat.le_trans h.low hw.size, h.base⟩
theorem KS.alloc (h : KS B w hb vk vt K T) (o : Obj) : KS B (w.alloc o) hb vk vt K T := h.new ((Below.refl _ _).alloc (Nat.le_refl _) o)
theorem KS.ge (h : KS B w hb vk vt K T) : ∀ i, KX hb vk vt i → B ≤ i ∧ i < w.heap.size := by
  rintro i (rfl | e | e)
  · exact ⟨h.base, h.lt⟩
  · exact h.ks.lt i e
  · exact h.ts.lt i e
theorem KS.below (h : KS B w hb vk vt K T) (f : Frm (KX hb vk vt) w w1) : Below B w w1 := f.below h.low (fun i e => (h.ge i e).1)

/-- A new key behind the keys. -/
theorem KS.pushK {vk' : Value} {x : Int} (h : KS B w hb vk vt K T) (hw : Below w.heap.size w w1) (ho : w2.ownsRow B 3 1 vk' (K.length + 1) (clsN (K ++ [x]))) (hg : w1.grownBy w2 vk.ownBlock) (hl : vk'.ownBlock = vk.ownBlock ∨ vk'.ownBlock = some w1.heap.size) :
    w2.heap[hb]? = some (CB vk vt) ∧ KS B (w2.setCell ⟨hb, 0, none⟩ vk') hb vk' vt (K ++ [x]) T ∧ Frm (KX hb vk vt) w (w2.setCell ⟨hb, 0, none⟩ vk') ∧ Lies w vk vk' := by
  have h1 := h.new hw
  have f2 : Frm (fun k => vk.ownBlock = some k) w1 w2 := Frm.of_grown hg (fun _ e => e)
  have hne := own_ne h1.ks h1.box (by decide)
  have hb2 : w2.heap[hb]? = some (CB vk vt) := by rw [f2.block hb h1.lt hne]; exact h1.box
  have hL : Lies w1 vk vk' := Lies.of_or hl (Nat.le_refl _)
  have ht2 := own_frm h1.ts f2 (fun k hk e => h.apart k e hk)
  have F : Frm (KX hb vk vt) w w2 := (Frm.of_new hw).next (f2.mono (fun i _ e => .inr (.inl e))) (fun _ _ e => e)
  refine ⟨hb2, ⟨CB.set0 hb2 _, ?_, ownsRow_setCell_other ht2 (own_ne ht2 hb2 (by decide)) _, ?_, by have := F.size; have := h.low; simp [World.setCell]; omega, h.base⟩, F.setCell (p := ⟨hb, 0, none⟩) (.inl rfl) _, fun k hk => (hL k hk).imp id (Nat.le_trans hw.size)⟩
  · rw [List.length_append]
    exact ownsRow_setCell_other ho (own_ne ho hb2 (by decide)) _
  · intro k hk hk2
    rcases hL k hk with e | e
    · exact h.apart k e hk2
    · have := (h1.ts.lt k hk2).2
      omega
theorem KS.pushT {vt' : Value} {x : Int} (h : KS B w hb vk vt K T) (hw : Below w.heap.size w w1) (ho : w2.ownsRow B 3 1 vt' (T.length + 1) (clsN (T ++ [x]))) (hg : w1.grownBy w2 vt.ownBlock) (hl : vt'.ownBlock = vt.ownBlock ∨ vt'.ownBlock = some w1.heap.size) :
    w2.heap[hb]? = some (CB vk vt) ∧ KS B (w2.setCell ⟨hb, 1, none⟩ vt') hb vk vt' K (T ++ [x]) ∧ Frm (KX hb vk vt) w (w2.setCell ⟨hb, 1, none⟩ vt') ∧ Lies w vt vt' := by
  have h1 := h.new hw
  have f2 : Frm (fun k => vt.ownBlock = some k) w1 w2 := Frm.of_grown hg (fun _ e => e)
  have hne := own_ne h1.ts h1.box (by decide)
  have hb2 : w2.heap[hb]? = some (CB vk vt) := by rw [f2.block hb h1.lt hne]; exact h1.box
  have hL : Lies w1 vt vt' := Lies.of_or hl (Nat.le_refl _)
  have hk2 := own_frm h1.ks f2 (fun k hk e => h.apart k hk e)
  have F : Frm (KX hb vk vt) w w2 := (Frm.of_new hw).next (f2.mono (fun i _ e => .inr (.inr e))) (fun _ _ e => e)
  refine ⟨hb2, ⟨CB.set1 hb2 _, ownsRow_setCell_other hk2 (own_ne hk2 hb2 (by decide)) _, ?_, ?_, by have := F.size; have := h.low; simp [World.setCell]; omega, h.base⟩, F.setCell (p := ⟨hb, 1, none⟩) (.inl rfl) _, fun k hk => (hL k hk).imp id (Nat.le_trans hw.size)⟩
  · rw [List.length_append]
    exact ownsRow_setCell_other ho (own_ne ho hb2 (by decide)) _
  · intro k hk hk2
    rcases hL k hk2 with e | e
    · exact h.apart k hk e
    · have := (h1.ks.lt k hk).2
      omega
/-- A number of a row changed. -/
theorem KS.storedK {gb n c : Nat} (hn : n = K.length) (h : KS B w hb (.slice (some ⟨gb, 0, none⟩) n c) vt K T) (i : Nat) (x : Int) :
    KS B (w.setCell ⟨gb, i, none⟩ (.int .i64 x)) hb (.slice (some ⟨gb, 0, none⟩) n c) vt (K.set i x) T ∧ Frm (KX hb (.slice (some ⟨gb, 0, none⟩) n c) vt) w (w.setCell ⟨gb, i, none⟩ (.int .i64 x)) := by
  subst hn
  have hne : ¬ hb = gb := fun e => own_ne h.ks h.box (by decide) (by rw [e]; rfl)
  refine ⟨⟨?_, ?_, ownsRow_setCell_other (a := ⟨gb, i, none⟩) h.ts (fun e => h.apart gb rfl e) _, h.apart, by have := h.low; simpa [World.setCell] using this, h.base⟩, (Frm.refl _ w).setCell (p := ⟨gb, i, none⟩) (.inr (.inl rfl)) _⟩
  · rw [Below.heap_setCell _ _ _ _ hne]; exact h.box
  · rw [clsN_set, List.length_set]
    exact (h.ks.stored i _).1
theorem KS.storedT {gb n c : Nat} (hn : n = T.length) (h : KS B w hb vk (.slice (some ⟨gb, 0, none⟩) n c) K T) (i : Nat) (x : Int) :
    KS B (w.setCell ⟨gb, i, none⟩ (.int .i64 x)) hb vk (.slice (some ⟨gb, 0, none⟩) n c) K (T.set i x) ∧ Frm (KX hb vk (.slice (some ⟨gb, 0, none⟩) n c)) w (w.setCell ⟨gb, i, none⟩ (.int .i64 x)) := by
  subst hn
  have hne : ¬ hb = gb := fun e => own_ne h.ts h.box (by decide) (by rw [e]; rfl)
  refine ⟨⟨?_, ownsRow_setCell_other (a := ⟨gb, i, none⟩) h.ks (fun e => h.apart gb e rfl) _, ?_, h.apart, by have := h.low; simpa [World.setCell] using this, h.base⟩, (Frm.refl _ w).setCell (p := ⟨gb, i, none⟩) (.inr (.inr rfl)) _⟩
  · rw [Below.heap_setCell _ _ _ _ hne]; exact h.box
  · rw [clsN_set, List.length_set]
    exact (h.ts.stored i _).1
end
end Go.Proofs.Ytadacjndepkfeaa
