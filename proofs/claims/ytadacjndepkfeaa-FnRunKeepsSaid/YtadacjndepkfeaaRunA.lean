/-
  A script under way: what memory holds, and what each part of a round of impl.HeapContinue leaves of it. No conditions but those that each theorem names.
-/
import Derived.Test.YtadacjndepkfeaaStep
import Derived.Test.YtadacjndepkfeaaSteps
namespace Go.Proofs.Ytadacjndepkfeaa
open Go.RowKit Go.Shelf
open Hp (g swp Ev St plc)

abbrev afterI := Hp.after ltK mkI
abbrev stsI := Hp.sts ltK mkI
abbrev outsI := Hp.outs ltK mkI

theorem afterI_succ (ss : List St) (l : List It) (k : Nat) (h : k < ss.length) : afterI l (ss.take (k + 1)) = (stpI (g ss k) (afterI l (ss.take k))).1 := Hp.after_succ ltK mkI ss l k h
theorem outsI_succ (ss : List St) (l : List It) (k : Nat) (h : k < ss.length) : outsI l (ss.take (k + 1)) = outsI l (ss.take k) ++ (stpI (g ss k) (afterI l (ss.take k))).2 := Hp.outs_succ ltK mkI ss l k h
theorem stsI_succ (ss : List St) (l : List It) (k : Nat) (h : k < ss.length) : stsI l (ss.take (k + 1)) = stsI l (ss.take k) ++ [afterI l (ss.take (k + 1))] := Hp.sts_succ ltK mkI ss l k h
theorem afterI_length (ss : List St) (l : List It) (k : Nat) : (afterI l (ss.take k)).length ≤ l.length + k := by
  have h1 := Hp.after_length ltK mkI (ss.take k) l
  have h2 := List.length_take_le k ss
  exact Nat.le_trans h1 (by omega)
theorem outsI_length (ss : List St) (l : List It) (k : Nat) : (outsI l (ss.take k)).length ≤ k := by
  have h1 := Hp.outs_length ltK mkI (ss.take k) l
  have h2 := List.length_take_le k ss
  exact Nat.le_trans h1 h2
theorem stsI_length (ss : List St) (l : List It) (k : Nat) (h : k ≤ ss.length) : (stsI l (ss.take k)).length = k + 1 := by
  rw [stsI, Hp.length_sts, List.length_take, Nat.min_eq_left h]

/-- A slice value that reads as a list of items. -/
def StV (X : Nat → Prop) (w : World) (v : Value) (l : List It) : Prop := ∃ A c, v = .slice A l.length c ∧ RdX X w A (cls l)
/-- Slice values that read as lists of items. -/
def SS (X : Nat → Prop) (w : World) (vs : List Value) (S : List (List It)) : Prop := vs.length = S.length ∧ ∀ i, i < S.length → ∃ v, vs[i]? = some v ∧ StV X w v (g S i)

theorem SS.nil (X : Nat → Prop) (w : World) : SS X w [] [] := ⟨rfl, fun i hi => by simp at hi⟩
theorem SS.snoc {X : Nat → Prop} {w : World} {vs : List Value} {S : List (List It)} {v : Value} {l : List It} (h : SS X w vs S) (hv : StV X w v l) : SS X w (vs ++ [v]) (S ++ [l]) := by
  refine ⟨by simp [h.1], fun i hi => ?_⟩
  simp at hi
  by_cases hlt : i < S.length
  · obtain ⟨u, h1, h2⟩ := h.2 i hlt
    exact ⟨u, by rw [List.getElem?_append_left (by rw [h.1]; exact hlt)]; exact h1, by rw [Hp.g_append_left hlt]; exact h2⟩
  · have e : i = S.length := by omega
    subst e
    exact ⟨v, by rw [← h.1]; simp, by rw [Hp.g_append_last]; exact hv⟩
theorem SS.frm {X Y Z : Nat → Prop} {w w' : World} {vs : List Value} {S : List (List It)} (h : SS X w vs S) (f : Frm Y w w') (hy : ∀ i, i < w.heap.size → Y i → X i) (hz : ∀ i, i < w.heap.size → Z i → X i) : SS Z w' vs S :=
  ⟨h.1, fun i hi => by
    obtain ⟨u, h1, A, c, h2, h3⟩ := h.2 i hi
    exact ⟨u, h1, A, c, h2, h3.frm f hy hz⟩⟩
theorem SS.at_ {X : Nat → Prop} {w : World} {vs : List Value} {S : List (List It)} (h : SS X w vs S) (i : Nat) (hi : i < S.length) : ∃ A c, vs[i]? = some (.slice A (g S i).length c) ∧ Rd w A (cls (g S i)) := by
  obtain ⟨u, h1, A, c, rfl, h3⟩ := h.2 i hi
  exact ⟨A, c, h1, h3.rd⟩
theorem SS.one {X : Nat → Prop} {w : World} {vs : List Value} {S : List (List It)} (h : SS X w vs S) : ∀ u ∈ vs, u.oneCell' = true := by
  intro u hu
  obtain ⟨i, hi, e⟩ := List.getElem_of_mem hu
  obtain ⟨v, h1, A, c, h2, _⟩ := h.2 i (by rw [← h.1]; exact hi)
  rw [List.getElem?_eq_getElem hi, e] at h1
  injection h1 with h1
  rw [h1, h2]
  rfl

theorem own_apart {w : World} {B1 B2 : Nat} {e1 e2 : TypeId} {z1 z2 n1 n2 : Nat} {v1 v2 : Value} {x1 x2 : List Value} (h1 : w.ownsRow B1 e1 z1 v1 n1 x1) (h2 : w.ownsRow B2 e2 z2 v2 n2 x2) (hne : e1 ≠ e2) : ∀ k, v1.ownBlock = some k → v2.ownBlock ≠ some k := by
  intro k hk hk2
  rcases h2.2 with ⟨rfl, _⟩ | ⟨gb, cap, cur, rfl, _, hh, _⟩
  · simp [Value.ownBlock] at hk2
  · have e : gb = k := by simpa [Value.ownBlock] using hk2
    subst e
    exact own_ne h1 hh hne hk

/-- The blocks of a script under way. -/
def CX (hb : Nat) (vh vo vt : Value) (i : Nat) : Prop := i = hb ∨ vh.ownBlock = some i ∨ vo.ownBlock = some i ∨ vt.ownBlock = some i

/-- A script under way: the heap, what was returned, the lists so far. -/
structure CI (B : Nat) (w : World) (hb : Nat) (vh vo vt : Value) (l o : List It) (vs : List Value) (S : List (List It)) : Prop where
  hs : HS B w hb vh vo l o
  row : w.ownsRow B 25 1 vt S.length vs
  ss : SS (CX hb vh vo vt) w vs S
  low : B ≤ hb

section
variable {B : Nat} {w w' : World} {hb : Nat} {vh vo vt : Value} {l o : List It} {vs : List Value} {S : List (List It)}
theorem CI.lt (h : CI B w hb vh vo vt l o vs S) : ∀ i, CX hb vh vo vt i → B ≤ i ∧ i < w.heap.size := by
  rintro i (rfl | e | e | e)
  · exact ⟨h.low, lt_of_block h.hs.box⟩
  · exact h.hs.heap.lt i e
  · exact h.hs.out.lt i e
  · exact h.row.lt i e
theorem CI.new (h : CI B w hb vh vo vt l o vs S) (hw : Below w.heap.size w w') : CI B w' hb vh vo vt l o vs S := by
  have f : ∀ X, Frm X w w' := fun X => Frm.of_new hw
  refine ⟨⟨?_, own_frm (X := fun _ => False) h.hs.heap (f _) (fun _ _ e => e), own_frm (X := fun _ => False) h.hs.out (f _) (fun _ _ e => e), h.hs.apart, Nat.le_trans h.hs.low hw.size⟩, own_frm (X := fun _ => False) h.row (f _) (fun _ _ e => e), h.ss.frm (f (fun _ => False)) (fun _ _ e => e.elim) (fun _ _ e => e), h.low⟩
  rw [hw.block hb (lt_of_block h.hs.box)]; exact h.hs.box
theorem CI.step {vh' vo' : Value} {l' o' : List It} (h : CI B w hb vh vo vt l o vs S) (h1 : HS B w' hb vh' vo' l' o') (f : Frm (SX hb vh vo) w w') (hl1 : Lies w vh vh') (hl2 : Lies w vo vo') : CI B w' hb vh' vo' vt l' o' vs S := by
  refine ⟨h1, own_frm h.row f ?_, h.ss.frm f ?_ ?_, h.low⟩
  · rintro k hk (rfl | e | e)
    · exact own_ne h.row h.hs.box (by decide) hk
    · exact own_apart h.row h.hs.heap (by decide) k hk e
    · exact own_apart h.row h.hs.out (by decide) k hk e
  · rintro i _ (e | e | e)
    · exact .inl e
    · exact .inr (.inl e)
    · exact .inr (.inr (.inl e))
  · rintro i hi (e | e | e | e)
    · exact .inl e
    · rcases hl1 i e with h2 | h2
      · exact .inr (.inl h2)
      · omega
    · rcases hl2 i e with h2 | h2
      · exact .inr (.inr (.inl h2))
      · omega
    · exact .inr (.inr (.inr e))
theorem CI.step_below {vh' vo' : Value} {l' o' : List It} (h : CI B w hb vh vo vt l o vs S) (_h1 : HS B w' hb vh' vo' l' o') (f : Frm (SX hb vh vo) w w') : Below B w w' :=
  f.below h.hs.low (by
    rintro i (rfl | e | e)
    · exact h.low
    · exact (h.hs.heap.lt i e).1
    · exact (h.hs.out.lt i e).1)
/-- The new list of lists, behind a copy that is new since w. -/
theorem CI.push {w3 w4 w5 : World} {A3 : Option Addr} {c3 : Nat} {l' : List It} {vt' : Value} (h : CI B w hb vh vo vt l o vs S) (hw : Below w.heap.size w w3) (ho3 : w3.ownsRow w.heap.size 36 2 (.slice A3 l'.length c3) l'.length (cls l')) (hw4 : Below w3.heap.size w3 w4)
    (ho5 : w5.ownsRow B 25 1 vt' (S.length + 1) (vs ++ [.slice A3 l'.length c3])) (hg : w4.grownBy w5 vt.ownBlock) {m : Nat} (hm : w4.heap.size = m) (hl : vt'.ownBlock = vt.ownBlock ∨ vt'.ownBlock = some m) :
    CI B w5 hb vh vo vt' l o (vs ++ [.slice A3 l'.length c3]) (S ++ [l']) ∧ Below B w w5 := by
  subst hm
  have h4 := h.new (bnext hw hw4)
  have f : Frm (fun k => vt.ownBlock = some k) w4 w5 := Frm.of_grown hg (fun _ e => e)
  have hL : Lies w4 vt vt' := Lies.of_or hl (Nat.le_refl _)
  have hx : RdX (CX hb vh vo vt) w4 A3 (cls l') := by
    have h3 : RdX (CX hb vh vo vt) w3 A3 (cls l') := RdX.of_own ho3 (fun k hk e => by
      have h1 := (ho3.lt k hk).1
      have h2 := (h.lt k e).2
      omega)
    exact h3.frm (Frm.of_new (X := fun _ => False) hw4) (fun _ _ e => e.elim) (fun _ _ e => e)
  refine ⟨⟨⟨?_, own_frm h4.hs.heap f (fun k hk e => own_apart h4.row h4.hs.heap (by decide) k e hk), own_frm h4.hs.out f (fun k hk e => own_apart h4.row h4.hs.out (by decide) k e hk), h4.hs.apart, Nat.le_trans h4.hs.low f.size⟩,
    by rw [List.length_append]; exact ho5, ?_, h.low⟩, ?_⟩
  · rw [f.block hb (lt_of_block h4.hs.box) (own_ne h4.row h4.hs.box (by decide))]; exact h4.hs.box
  · have hz : ∀ i, i < w4.heap.size → CX hb vh vo vt' i → CX hb vh vo vt i := by
      rintro i hi (e | e | e | e)
      · exact .inl e
      · exact .inr (.inl e)
      · exact .inr (.inr (.inl e))
      · rcases hL i e with h2 | h2
        · exact .inr (.inr (.inr h2))
        · omega
    exact (h4.ss.frm f (fun _ _ e => .inr (.inr (.inr e))) hz).snoc ⟨A3, c3, rfl, hx.frm f (fun _ _ e => .inr (.inr (.inr e))) hz⟩
  · exact ((bnext hw hw4).mono h.hs.low).trans (f.below h4.hs.low (fun i e => (h4.row.lt i e).1))
end

/-- What HeapRun and HeapContinue leave. -/
def Runs (w : World) (S : List (List It)) (o : List It) (e : Ending) (w' : World) : Prop :=
  ∃ A c A2 c2 vs, e = .returned (.tuple #[.slice A S.length c, .slice A2 o.length c2]) ∧ w'.ownsRow w.heap.size 25 1 (.slice A S.length c) S.length vs ∧ SS (fun _ => False) w' vs S ∧
    w'.ownsRow w.heap.size 36 2 (.slice A2 o.length c2) o.length (cls o) ∧ Below w.heap.size w w'

theorem info_row : (Try.prog.info? 25).map (fun i => (i.zero, i.size, i.bytes)) = some (some (.slice none 0 0), 1, 24) := by kernel_rfl
theorem m16 {n : Nat} (h : n ≤ 13194139537408) : n * 16 ≤ 211106232598528 := by omega
theorem m24 {n : Nat} (h : n ≤ 8796093024938) : n * 24 ≤ 211106232598528 := by omega
theorem wide_fits24 {n : Nat} (h : n * 24 ≤ 211106232598528) : (n + n / 4 + 192) * 24 ≤ 281474976710656 := by omega
/-- append of one list onto an own list of lists. -/
theorem wpList_append_row {w : World} {ops : Array Oper} {rest : List Oper} {o : Oper} {a : Act} {Q : Exit → Act → World → Prop} (hgd : o.guard = none) (s x : Operand)
    (ho : o.op = .call { callee := .builtin .append, args := #[s, x], argTypes := #[24, 24] }) (u : Value) (B n : Nat) (vs : List Value) (y : Value) (gs : Nat) (hy : y.oneCell' = true) (hs : a.eval s = u) (hx : a.eval x = .slice (some ⟨gs, 0, none⟩) 1 1)
    (hown : w.ownsRow B 25 1 u n vs) (hg : w.heap[gs]? = some (.cells #[y] 25 (0, 0)))
    (hn : (n + 1) * 24 ≤ 211106232598528) (hB : B ≤ w.heap.size)
    (h : ∀ A' c' w', w'.ownsRow B 25 1 (.slice A' (n + 1) c') (n + 1) (vs ++ [y]) → w.grownBy w' u.ownBlock → ((Value.slice A' (n + 1) c').ownBlock = u.ownBlock ∨ (Value.slice A' (n + 1) c').ownBlock = some w.heap.size) → wpList Try.prog ops Q rest (a.put o.dst (.slice A' (n + 1) c')) w') : wpList Try.prog ops Q (o :: rest) a w := by
  obtain ⟨i0, hi, hz0, hz1, hz2⟩ := info_parts info_row
  obtain ⟨v', w', hr, h2, h3, h4⟩ := run_append_wide_at (P := Try.prog) w B 24 o.type 25 i0 _ 1 24 Try.underlying24 hi hz0 hz1 hz2 rfl (by decide) u n vs hown
    ⟨gs, 0, none⟩ 1 1 [y] rfl (World.news_of_block (cs := #[y]) (t := 25) (fr := (0, 0)) hg) (by simpa using hy) (by simp only [maxLen]; omega) (wide_fits24 hn) hB
  obtain ⟨A', c', rfl⟩ := own_slice h2
  exact wpList_append_run hgd s x _ ho _ _ _ _ hs hx hr (h A' c' w' h2 h3 h4)

/-- A slice that was built just now. -/
theorem own_built {w : World} {B : Nat} {e : TypeId} {size n : Nat} {cs : Array Value} (hc : cs.size = n * size) (hn : n ≤ maxLen) (hB : B ≤ w.heap.size) : (w.alloc (.cells cs e)).ownsRow B e size (.slice (some ⟨w.heap.size, 0, none⟩) n n) n cs.toList :=
  ⟨by simpa using hc, .inr ⟨w.heap.size, n, cs, rfl, hB, heap_alloc_new _ _, Nat.le_refl _, hn, hc, by rw [← hc]; exact List.take_of_length_le (by simp)⟩⟩

theorem CI.start {w w1 w2 : World} {A1 A2 : Option Addr} {c1 c2 : Nat} {l : List It} (ho1 : w1.ownsRow w.heap.size 36 2 (.slice A1 l.length c1) l.length (cls l)) (hb1 : Below w.heap.size w w1)
    (ho2 : w2.ownsRow (w1.heap.size + 1) 36 2 (.slice A2 l.length c2) l.length (cls l)) (hb2 : Below (w1.heap.size + 1) (w1.alloc (.cells #[.slice A1 l.length c1] 52)) w2) :
    CI w.heap.size (w2.alloc (.cells #[.slice A2 l.length c2] 25)) w1.heap.size (.slice A1 l.length c1) (.slice none 0 0) (.slice (some ⟨w2.heap.size, 0, none⟩) 1 1) l [] [.slice A2 l.length c2] [l] ∧
      Below w.heap.size w (w2.alloc (.cells #[.slice A2 l.length c2] 25)) := by
  have hs1 := hb1.size
  have hs2 := hb2.size
  rw [heap_size_alloc] at hs2
  have hbb : Below w.heap.size w w2 := (hb1.alloc hs1 (.cells #[.slice A1 l.length c1] 52)).trans (hb2.mono (by omega))
  have f2 : ∀ X, Frm X (w1.alloc (.cells #[.slice A1 l.length c1] 52)) w2 := fun X => Frm.of_new (by rw [heap_size_alloc]; exact hb2)
  have hbx : w2.heap[w1.heap.size]? = some (.cells #[.slice A1 l.length c1] 52 (0, 0)) := by
    rw [hb2.block _ (by omega)]; exact heap_alloc_new _ _
  have hrow : (w2.alloc (.cells #[.slice A2 l.length c2] 25)).ownsRow w.heap.size 25 1 (.slice (some ⟨w2.heap.size, 0, none⟩) 1 1) 1 [.slice A2 l.length c2] :=
    own_built (cs := #[.slice A2 l.length c2]) rfl (by decide) (by omega)
  refine ⟨⟨⟨?_, (own_frm (X := fun _ => False) (ho1.alloc _) (f2 _) (fun _ _ e => e)).alloc _, World.ownsRow_nil _ _ _ _, fun k _ => by simp [Value.ownBlock], by simp; omega⟩, hrow, ?_, hs1⟩, hbb.alloc hbb.size _⟩
  · rw [Below.heap_alloc _ _ _ (lt_of_block hbx)]; exact hbx
  · refine SS.snoc (SS.nil _ _) ⟨A2, c2, rfl, ?_⟩
    refine (RdX.of_own ho2 (X := CX w1.heap.size (.slice A1 l.length c1) (.slice none 0 0) (.slice (some ⟨w2.heap.size, 0, none⟩) 1 1)) ?_).frm (Frm.of_new (X := fun _ => False) ((Below.refl _ _).alloc (Nat.le_refl _) _)) (fun _ _ e => e.elim) (fun _ _ e => e)
    rintro k hk (e | e | e | e)
    · have := (ho2.lt k hk).1; omega
    · have h1 := (ho1.lt k e).2
      have h2 := (ho2.lt k hk).1
      omega
    · simp [Value.ownBlock] at e
    · have h2 := (ho2.lt k hk).2
      have : w2.heap.size = k := by simpa [Value.ownBlock] using e
      omega
end Go.Proofs.Ytadacjndepkfeaa
