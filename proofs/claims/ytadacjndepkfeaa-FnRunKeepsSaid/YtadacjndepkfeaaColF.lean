/-
  A script on columns under way: what memory holds, and what each part of a round of impl.HeapRunColumns leaves of it. No conditions but those that each theorem names.
-/
import Derived.Test.YtadacjndepkfeaaColE
namespace Go.Proofs.Ytadacjndepkfeaa
open Go.RowKit Go.Shelf
open Hp (g swp Ev St plc)

/-- The blocks of a script under way. -/
def YX (hb : Nat) (vk vt vo vr : Value) (i : Nat) : Prop := KX hb vk vt i ∨ vo.ownBlock = some i ∨ vr.ownBlock = some i

/-- A script under way: the heap, what was returned, the lists so far. -/
structure CC (B : Nat) (w : World) (hb : Nat) (vk vt vo vr : Value) (l o : List It) (vs : List Value) (S : List (List It)) : Prop where
  ks : KS B w hb vk vt (l.map Prod.fst) (l.map Prod.snd)
  out : w.ownsRow B 36 2 vo o.length (cls o)
  row : w.ownsRow B 25 1 vr S.length vs
  ss : SS (YX hb vk vt vo vr) w vs S

theorem RC.begin {B : Nat} {w : World} {hb : Nat} {vk vt : Value} {N : Nat} {l : List It} (h : KS B w hb vk vt (l.map Prod.fst) (l.map Prod.snd)) (hl : l.length ≤ N) (hN : N < 4611686018427387904) : RC B w hb vk vt N l [] w :=
  ⟨⟨vk, vt, h, Lies.refl _ _, Lies.refl _ _⟩, Frm.refl _ _, hl, hN⟩

section
variable {B : Nat} {w w' : World} {hb : Nat} {vk vt vo vr : Value} {l o : List It} {vs : List Value} {S : List (List It)}
theorem KS.out_apart (h : KS B w hb vk vt (l.map Prod.fst) (l.map Prod.snd)) {e : TypeId} {z n : Nat} {v : Value} {xs : List Value} (ho : w.ownsRow B e z v n xs) (h1 : e ≠ 3) (h2 : 63 ≠ e) : ∀ k, v.ownBlock = some k → ¬ KX hb vk vt k := by
  rintro k hk (rfl | e | e)
  · exact own_ne ho h.box (Ne.symm h2) hk
  · exact own_apart ho h.ks h1 k hk e
  · exact own_apart ho h.ts h1 k hk e
theorem CC.lt (h : CC B w hb vk vt vo vr l o vs S) : ∀ i, YX hb vk vt vo vr i → B ≤ i ∧ i < w.heap.size := by
  rintro i (e | e | e)
  · exact h.ks.ge i e
  · exact h.out.lt i e
  · exact h.row.lt i e
theorem CC.new (h : CC B w hb vk vt vo vr l o vs S) (hw : Below w.heap.size w w') : CC B w' hb vk vt vo vr l o vs S := by
  have f : ∀ X, Frm X w w' := fun X => Frm.of_new hw
  exact ⟨h.ks.new hw, own_frm (X := fun _ => False) h.out (f _) (fun _ _ e => e), own_frm (X := fun _ => False) h.row (f _) (fun _ _ e => e), h.ss.frm (f (fun _ => False)) (fun _ _ e => e.elim) (fun _ _ e => e)⟩
theorem CC.moved {vk' vt' : Value} {l' : List It} (h : CC B w hb vk vt vo vr l o vs S) (hk : KS B w' hb vk' vt' (l'.map Prod.fst) (l'.map Prod.snd)) (f : Frm (KX hb vk vt) w w') (m1 : Lies w vk vk') (m2 : Lies w vt vt') : CC B w' hb vk' vt' vo vr l' o vs S ∧ Below B w w' := by
  refine ⟨⟨hk, own_frm h.out f (h.ks.out_apart h.out (by decide) (by decide)), own_frm h.row f (h.ks.out_apart h.row (by decide) (by decide)), h.ss.frm f (fun i _ e => .inl e) ?_⟩, h.ks.below f⟩
  rintro i hi ((e | e | e) | e)
  · exact .inl (.inl e)
  · rcases m1 i e with h2 | h2
    · exact .inl (.inr (.inl h2))
    · omega
  · rcases m2 i e with h2 | h2
    · exact .inl (.inr (.inr h2))
    · omega
  · exact .inr e
theorem CC.movedR {N : Nat} {tr : List Ev} {l' : List It} (h : CC B w hb vk vt vo vr l o vs S) (hr : RC B w hb vk vt N l' tr w') : ∃ vk' vt', CC B w' hb vk' vt' vo vr l' o vs S ∧ Below B w w' := by
  obtain ⟨vk', vt', hk, m1, m2⟩ := hr.own
  exact ⟨vk', vt', h.moved hk hr.frm m1 m2⟩
theorem CC.pushed {w3 w4 : World} {vo' : Value} {x : It} (h : CC B w hb vk vt vo vr l o vs S) (hw : Below w.heap.size w w3) (ho : w4.ownsRow B 36 2 vo' (o.length + 1) (cls (o ++ [x]))) (hg : w3.grownBy w4 vo.ownBlock)
    {m : Nat} (hm : w3.heap.size = m) (hl : vo'.ownBlock = vo.ownBlock ∨ vo'.ownBlock = some m) : CC B w4 hb vk vt vo' vr l (o ++ [x]) vs S ∧ Below B w w4 := by
  subst hm
  have h3 := h.new hw
  have f : Frm (fun k => vo.ownBlock = some k) w3 w4 := Frm.of_grown hg (fun _ e => e)
  have hL : Lies w3 vo vo' := Lies.of_or hl (Nat.le_refl _)
  have hap := h3.ks.out_apart h3.out (by decide) (by decide)
  refine ⟨⟨⟨?_, own_frm h3.ks.ks f (fun k hk e => hap k e (.inr (.inl hk))), own_frm h3.ks.ts f (fun k hk e => hap k e (.inr (.inr hk))), h.ks.apart, Nat.le_trans h3.ks.low f.size, h.ks.base⟩, by rw [List.length_append]; exact ho, own_frm h3.row f (fun k hk e => own_apart h3.row h3.out (by decide) k hk e), h3.ss.frm f (fun _ _ e => .inr (.inl e)) ?_⟩, ?_⟩
  · rw [f.block hb h3.ks.lt (fun e => hap hb e (.inl rfl))]; exact h3.ks.box
  · rintro i hi (e | e | e)
    · exact .inl e
    · rcases hL i e with h2 | h2
      · exact .inr (.inl h2)
      · omega
    · exact .inr (.inr e)
  · exact (hw.mono h.ks.low).trans (f.below h3.ks.low (fun i e => (h3.out.lt i e).1))
/-- The new list of lists, behind a list that is new since w. -/
theorem CC.push {w3 w4 w5 : World} {A3 : Option Addr} {c3 : Nat} {l' : List It} {vr' : Value} (h : CC B w hb vk vt vo vr l o vs S) (hw : Below w.heap.size w w3) (ho3 : w3.ownsRow w.heap.size 36 2 (.slice A3 l'.length c3) l'.length (cls l')) (hw4 : Below w3.heap.size w3 w4)
    (ho5 : w5.ownsRow B 25 1 vr' (S.length + 1) (vs ++ [.slice A3 l'.length c3])) (hg : w4.grownBy w5 vr.ownBlock) {m : Nat} (hm : w4.heap.size = m) (hl : vr'.ownBlock = vr.ownBlock ∨ vr'.ownBlock = some m) :
    CC B w5 hb vk vt vo vr' l o (vs ++ [.slice A3 l'.length c3]) (S ++ [l']) ∧ Below B w w5 := by
  subst hm
  have h4 := h.new (bnext hw hw4)
  have f : Frm (fun k => vr.ownBlock = some k) w4 w5 := Frm.of_grown hg (fun _ e => e)
  have hL : Lies w4 vr vr' := Lies.of_or hl (Nat.le_refl _)
  have hap := h4.ks.out_apart h4.row (by decide) (by decide)
  have hx : RdX (YX hb vk vt vo vr) w4 A3 (cls l') := by
    have h3 : RdX (YX hb vk vt vo vr) w3 A3 (cls l') := RdX.of_own ho3 (fun k hk e => by
      have h1 := (ho3.lt k hk).1
      have h2 := (h.lt k e).2
      omega)
    exact h3.frm (Frm.of_new (X := fun _ => False) hw4) (fun _ _ e => e.elim) (fun _ _ e => e)
  have hz : ∀ i, i < w4.heap.size → YX hb vk vt vo vr' i → YX hb vk vt vo vr i := by
    rintro i hi (e | e | e)
    · exact .inl e
    · exact .inr (.inl e)
    · rcases hL i e with h2 | h2
      · exact .inr (.inr h2)
      · omega
  refine ⟨⟨⟨?_, own_frm h4.ks.ks f (fun k hk e => hap k e (.inr (.inl hk))), own_frm h4.ks.ts f (fun k hk e => hap k e (.inr (.inr hk))), h.ks.apart, Nat.le_trans h4.ks.low f.size, h.ks.base⟩, own_frm h4.out f (fun k hk e => own_apart h4.row h4.out (by decide) k e hk),
    by rw [List.length_append]; exact ho5, (h4.ss.frm f (fun _ _ e => .inr (.inr e)) hz).snoc ⟨A3, c3, rfl, hx.frm f (fun _ _ e => .inr (.inr e)) hz⟩⟩, ?_⟩
  · rw [f.block hb h4.ks.lt (fun e => hap hb e (.inl rfl))]; exact h4.ks.box
  · exact ((bnext hw hw4).mono h.ks.low).trans (f.below h4.ks.low (fun i e => (h4.row.lt i e).1))
/-- The begin: the list of lists holds the first list alone, which is new since w. -/
theorem CC.start {w2 : World} {A2 : Option Addr} {c2 : Nat} (h : KS B w hb vk vt (l.map Prod.fst) (l.map Prod.snd)) (ho2 : w2.ownsRow w.heap.size 36 2 (.slice A2 l.length c2) l.length (cls l)) (hb2 : Below w.heap.size w w2) :
    CC B (w2.alloc (.cells #[.slice A2 l.length c2] 25)) hb vk vt (.slice none 0 0) (.slice (some ⟨w2.heap.size, 0, none⟩) 1 1) l [] [.slice A2 l.length c2] [l] ∧ Below B w (w2.alloc (.cells #[.slice A2 l.length c2] 25)) := by
  have hs2 := hb2.size
  have hB := Nat.le_trans h.low hs2
  have hrow : (w2.alloc (.cells #[.slice A2 l.length c2] 25)).ownsRow B 25 1 (.slice (some ⟨w2.heap.size, 0, none⟩) 1 1) 1 [.slice A2 l.length c2] :=
    own_built (cs := #[.slice A2 l.length c2]) rfl (by decide) hB
  refine ⟨⟨(h.new hb2).alloc _, World.ownsRow_nil _ _ _ _, hrow, ?_⟩, (hb2.mono h.low).alloc hB _⟩
  refine SS.snoc (SS.nil _ _) ⟨A2, c2, rfl, ?_⟩
  refine (RdX.of_own ho2 (X := YX hb vk vt (.slice none 0 0) (.slice (some ⟨w2.heap.size, 0, none⟩) 1 1)) ?_).frm (Frm.of_new (X := fun _ => False) ((Below.refl _ _).alloc (Nat.le_refl _) _)) (fun _ _ e => e.elim) (fun _ _ e => e)
  rintro k hk (e | e | e)
  · have h1 := (h.ge k e).2
    have h2 := (ho2.lt k hk).1
    omega
  · simp [Value.ownBlock] at e
  · have h2 := (ho2.lt k hk).2
    have : w2.heap.size = k := by simpa [Value.ownBlock] using e
    omega
end
/-- The method Len, and what it leaves. -/
theorem columns_len_own {B : Nat} {w : World} {hb : Nat} {vk vt : Value} {l : List It} (h : KS B w hb vk vt (l.map Prod.fst) (l.map Prod.snd)) :
    Calls Try.prog 43 #[.agg #[vk, vt]] w fun e w' => e = .returned (.int .i64 l.length) ∧ Below w.heap.size w w' := by
  obtain ⟨A, c, e⟩ := own_slice h.ks
  subst e
  refine (columns_len w A _ c vt).mono ?_
  rintro e w' ⟨rfl, rfl⟩
  exact ⟨by rw [List.length_map], (Below.refl _ _).alloc (Nat.le_refl _) _⟩
end Go.Proofs.Ytadacjndepkfeaa
