/-
  impl.HeapScriptInts: what it returns. Conditions: memory holds the numbers and the steps; they are within the reach of slices.
-/
import Derived.Test.YtjojlnmcifkenaaInts
import Derived.Test.YtjojlnmcifkenaaSteps
import Derived.Test.YtjojlnmcifkenaaHeapInit
import Derived.Test.YtjojlnmcifkenaaHeapFix
import Derived.Test.YtjojlnmcifkenaaHeapRem
import Derived.Test.YtjojlnmcifkenaaHeapPop
namespace Go.Proofs.Ytjojlnmcifkenaa
open Go.RowKit Go.Shelf
open Hp (g swp Ev St plc)

/-- A script of numbers under way: the heap, and two lists of numbers, all apart from each other. -/
structure N3 (B : Nat) (w : World) (hb : Nat) (vh va vb : Value) (l a b : List Int) : Prop where
  box : w.heap[hb]? = some (.cells #[vh] 47 (0, 0))
  heap : w.ownsRow B 3 1 vh l.length (clsN l)
  oa : w.ownsRow B 3 1 va a.length (clsN a)
  ob : w.ownsRow B 3 1 vb b.length (clsN b)
  ha : ∀ k, vh.ownBlock = some k → va.ownBlock ≠ some k
  hab : ∀ k, vh.ownBlock = some k → vb.ownBlock ≠ some k
  ab : ∀ k, va.ownBlock = some k → vb.ownBlock ≠ some k
  low : B ≤ w.heap.size
  lowb : B ≤ hb

section
variable {B : Nat} {w w' : World} {hb : Nat} {vh va vb : Value} {l a b : List Int}
theorem N3.swap (h : N3 B w hb vh va vb l a b) : N3 B w hb vh vb va l b a := ⟨h.box, h.heap, h.ob, h.oa, h.hab, h.ha, fun k h1 h2 => h.ab k h2 h1, h.low, h.lowb⟩
theorem N3.new (h : N3 B w hb vh va vb l a b) (hw : Below w.heap.size w w') : N3 B w' hb vh va vb l a b := by
  have f : Frm (fun _ => False) w w' := Frm.of_new hw
  refine ⟨?_, own_frm h.heap f (fun _ _ e => e), own_frm h.oa f (fun _ _ e => e), own_frm h.ob f (fun _ _ e => e), h.ha, h.hab, h.ab, Nat.le_trans h.low hw.size, h.lowb⟩
  rw [hw.block hb (lt_of_block h.box)]; exact h.box
theorem RN.begin {N : Nat} (h : N3 B w hb vh va vb l a b) (hl : l.length ≤ N) (hN : N < 4611686018427387904) : RN B w hb vh N l [] w := ⟨⟨vh, h.box, h.heap, Lies.refl _ _⟩, Frm.refl _ _, hl, hN⟩
theorem N3.moved {w2 : World} {N : Nat} {l' : List Int} {tr : List Ev} (h : N3 B w hb vh va vb l a b) (hr : RN B w hb vh N l' tr w2) : ∃ vh', N3 B w2 hb vh' va vb l' a b ∧ Below B w w2 := by
  obtain ⟨v, hv, ho, hl⟩ := hr.own
  have hf := hr.frm
  have hx : ∀ {vx : Value} {x : List Int}, w.ownsRow B 3 1 vx x.length (clsN x) → (∀ k, vh.ownBlock = some k → vx.ownBlock ≠ some k) → w2.ownsRow B 3 1 vx x.length (clsN x) ∧ (∀ k, v.ownBlock = some k → vx.ownBlock ≠ some k) := by
    intro vx x h1 h2
    refine ⟨own_frm h1 hf ?_, ?_⟩
    · rintro k hk (e | e)
      · exact own_ne h1 h.box (by decide) (by rw [hk, e])
      · exact h2 k e hk
    · intro k hk hxk
      rcases hl k hk with e | e
      · exact h2 k e hxk
      · have := (h1.lt k hxk).2
        omega
  obtain ⟨p1, p2⟩ := hx h.oa h.ha
  obtain ⟨q1, q2⟩ := hx h.ob h.hab
  refine ⟨v, ⟨hv, ho, p1, q1, p2, q2, h.ab, Nat.le_trans h.low hf.size, h.lowb⟩, hf.below h.low ?_⟩
  rintro i (e | e)
  · rw [e]; exact h.lowb
  · exact (h.heap.lt i e).1
theorem N3.pushed {w3 w4 : World} {va' : Value} {x : Int} (h : N3 B w hb vh va vb l a b) (hw : Below w.heap.size w w3) (ho : w4.ownsRow B 3 1 va' (a.length + 1) (clsN (a ++ [x]))) (hg : w3.grownBy w4 va.ownBlock) {m : Nat} (hm : w3.heap.size = m)
    (hl : va'.ownBlock = va.ownBlock ∨ va'.ownBlock = some m) : N3 B w4 hb vh va' vb l (a ++ [x]) b ∧ Below B w w4 := by
  subst hm
  have h3 := h.new hw
  have hf : Frm (fun k => va.ownBlock = some k) w3 w4 := Frm.of_grown hg (fun _ e => e)
  have hL : Lies w3 va va' := Lies.of_or hl (Nat.le_refl _)
  refine ⟨⟨?_, own_frm h3.heap hf (fun k hk e => h3.ha k hk e), by rw [List.length_append]; exact ho, own_frm h3.ob hf (fun k hk e => h3.ab k e hk), ?_, h3.hab, ?_, Nat.le_trans h3.low hf.size, h.lowb⟩, ?_⟩
  · rw [hf.block hb (lt_of_block h3.box) (own_ne h3.oa h3.box (by decide))]; exact h3.box
  · intro k hk hok
    rcases hL k hok with e | e
    · exact h3.ha k hk e
    · have := (h3.heap.lt k hk).2
      omega
  · intro k hk hok
    rcases hL k hk with e | e
    · exact h3.ab k e hok
    · have := (h3.ob.lt k hok).2
      omega
  · exact (hw.mono h.low).trans (hf.below h3.low (fun i e => (h3.oa.lt i e).1))
/-- One number of the heap stored. -/
theorem N3.stored {gb c : Nat} (h : N3 B w hb (.slice (some ⟨gb, 0, none⟩) l.length c) va vb l a b) (i : Nat) (x : Int) : N3 B (w.setCell ⟨gb, i, none⟩ (.int .i64 x)) hb (.slice (some ⟨gb, 0, none⟩) l.length c) va vb (l.set i x) a b ∧ Below B w (w.setCell ⟨gb, i, none⟩ (.int .i64 x)) := by
  have hne : ¬ hb = gb := fun e => own_ne h.heap h.box (by decide) (by rw [e]; rfl)
  refine ⟨⟨?_, ?_, ownsRow_setCell_other (a := ⟨gb, i, none⟩) h.oa (h.ha gb rfl) _, ownsRow_setCell_other (a := ⟨gb, i, none⟩) h.ob (h.hab gb rfl) _, h.ha, h.hab, h.ab, by simpa [World.setCell] using h.low, h.lowb⟩, (Below.refl _ _).setCell (h.heap.lt gb rfl).1 _⟩
  · rw [Below.heap_setCell _ _ _ _ hne]; exact h.box
  · rw [List.length_set, clsN_set]
    exact (h.heap.stored _ _).1
end

/-- What HeapScriptInts leaves. -/
def Two (w : World) (a b : List Int) (e : Ending) (w' : World) : Prop :=
  ∃ A c A2 c2, e = .returned (.tuple #[.slice A a.length c, .slice A2 b.length c2]) ∧ w'.ownsRow w.heap.size 3 1 (.slice A a.length c) a.length (clsN a) ∧ w'.ownsRow w.heap.size 3 1 (.slice A2 b.length c2) b.length (clsN b) ∧
    (∀ k, (Value.slice A a.length c).ownBlock = some k → (Value.slice A2 b.length c2).ownBlock ≠ some k) ∧ Below w.heap.size w w'

theorem pops_step (l : List Int) (k : Nat) (r R : List Int) (h : r ++ Hp.pops ltI (k + 1) l = R) : (r ++ [g l 0]) ++ Hp.pops ltI k (Hp.popD ltI l).dropLast = R := by
  rw [← h]; simp [Hp.pops]
end Go.Proofs.Ytjojlnmcifkenaa
