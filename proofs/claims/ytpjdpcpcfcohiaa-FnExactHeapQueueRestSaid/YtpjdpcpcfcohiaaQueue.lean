/-
  impl's type queue, called through heap.Interface by its address: its methods keep a list of pairs of a key and a number, and each entry knows its index; they leave alone all blocks but the desk's, the list's own and the entries'. Condition: memory holds the queue (RQ).
-/
import Derived.Test.YtpjdpcpcfcohiaaBase
import Derived.Test.YtpjdpcpcfcohiaaPlainX
namespace Go.Proofs.Ytpjdpcpcfcohiaa
open Go.RowKit Go.Shelf
open Hp (g swp Ev ix nums QV ltQ)

def ptr (e : Nat) : Value := .pointer (some ⟨e, 0, none⟩)
/-- Where the entry with a number lies. -/
def eb (E : List Nat) (n : Int) : Nat := g E n.toNat
def clsP (E : List Nat) (l : List (Int × Int)) : List Value := l.map (fun p => ptr (eb E p.2))
theorem length_clsP (E : List Nat) (l : List (Int × Int)) : (clsP E l).length = l.length := by simp [clsP]
theorem clsP_append (E : List Nat) (l r : List (Int × Int)) : clsP E (l ++ r) = clsP E l ++ clsP E r := by simp [clsP]
theorem clsP_at (E : List Nat) (l : List (Int × Int)) (i : Nat) (h : i < l.length) : (clsP E l)[i]? = some (ptr (eb E (g l i).2)) := by
  simp [clsP, Hp.g_lt h]
theorem clsP_set (E : List Nat) (l : List (Int × Int)) (i : Nat) (x : Int × Int) : clsP E (l.set i x) = (clsP E l).set i (ptr (eb E x.2)) := by simp [clsP, List.map_set]
theorem clsP_dropLast (E : List Nat) (l : List (Int × Int)) : clsP E l.dropLast = (clsP E l).take (l.length - 1) := by
  rw [List.dropLast_eq_take]; simp [clsP]
theorem clsP_congr {E F : List Nat} {l : List (Int × Int)} (h : ∀ p ∈ l, eb E p.2 = eb F p.2) : clsP E l = clsP F l := by
  unfold clsP
  exact List.map_congr_left (fun p hp => by rw [h p hp])

/-- An entry's block. -/
def EC (k n i : Int) : Obj := .cells #[.int .i64 k, .int .i64 n, .int .i64 i] 69 (0, 0)
/-- The entries: their keys, their numbers, their indices. -/
def Ents (E : List Nat) (K : List Int) (f : Int → Int) (w : World) : Prop := ∀ n, n < E.length → w.heap[g E n]? = some (EC (g K n) (n : Int) (f (n : Int)))
theorem EC.cells {w : World} {b : Nat} {k n i : Int} (h : w.heap[b]? = some (EC k n i)) : w.cell? ⟨b, 0, none⟩ = some (.int .i64 k) ∧ w.cell? ⟨b, 1, none⟩ = some (.int .i64 n) ∧ w.cell? ⟨b, 2, none⟩ = some (.int .i64 i) ∧ ∀ j, w.frozen? ⟨b, j, none⟩ = false := by
  unfold EC at h
  refine ⟨by simp [World.cell?, h], by simp [World.cell?, h], by simp [World.cell?, h], fun j => by simp [World.frozen?, h]⟩
theorem EC.index {w : World} {b : Nat} {k n i : Int} (h : w.heap[b]? = some (EC k n i)) (j : Int) : (w.setCell ⟨b, 2, none⟩ (.int .i64 j)).heap[b]? = some (EC k n j) := by
  unfold EC at h ⊢
  rw [heap_setCell_same _ _ _ _ _ _ h]
  rfl
theorem EC.key {w : World} {b : Nat} {k n i : Int} (h : w.heap[b]? = some (EC k n i)) (j : Int) : (w.setCell ⟨b, 0, none⟩ (.int .i64 j)).heap[b]? = some (EC j n i) := by
  unfold EC at h ⊢
  rw [heap_setCell_same _ _ _ _ _ _ h]
  rfl
theorem Ents.congr {E : List Nat} {K : List Int} {f f' : Int → Int} {w : World} (h : Ents E K f w) (hf : ∀ n : Nat, n < E.length → f n = f' n) : Ents E K f' w := fun n hn => by rw [h n hn, hf n hn]
theorem Ents.index {E : List Nat} {K : List Int} {f : Int → Int} {w : World} (h : Ents E K f w) (hE : E.Nodup) {m : Nat} (hm : m < E.length) (v : Int) : Ents E K (fun n => if n = (m : Int) then v else f n) (w.setCell ⟨g E m, 2, none⟩ (.int .i64 v)) := by
  intro n hn
  by_cases e : n = m
  · subst e
    simp only [if_true]
    exact EC.index (h n hn) v
  · have hne : g E n ≠ g E m := by
      intro e'
      rw [← Hp.g_eq hn, ← Hp.g_eq hm] at e'
      exact e ((List.getElem_inj hE).1 e')
    have hne2 : ¬ (n : Int) = (m : Int) := by omega
    simp only [if_neg hne2]
    rw [Below.heap_setCell _ _ _ _ hne]
    exact h n hn
theorem Ents.frm {E : List Nat} {K : List Int} {f : Int → Int} {w w' : World} {X : Nat → Prop} (h : Ents E K f w) (hf : Frm X w w') (hx : ∀ n, n < E.length → ¬ X (g E n)) : Ents E K f w' := fun n hn => by
  rw [hf.block _ (lt_of_block (h n hn)) (hx n hn)]
  exact h n hn
theorem Ents.other {E : List Nat} {K : List Int} {f : Int → Int} {w : World} (h : Ents E K f w) {p : Addr} (v : Value) (hp : ∀ n, n < E.length → g E n ≠ p.block) : Ents E K f (w.setCell p v) := fun n hn => by
  rw [Below.heap_setCell _ _ _ _ (hp n hn)]
  exact h n hn
/-- A block of another type is no entry's. -/
theorem Ents.ne {E : List Nat} {K : List Int} {f : Int → Int} {w : World} (h : Ents E K f w) {b : Nat} {cs : Array Value} {t : TypeId} {fr : Nat × Nat} (hb : w.heap[b]? = some (.cells cs t fr)) (hne : 69 ≠ t) : ∀ n, n < E.length → g E n ≠ b := by
  intro n hn e
  have h1 := h n hn
  rw [e, hb] at h1
  injection h1 with h1
  injection h1 with _ ht
  exact hne ht.symm
theorem Ents.ne_own {E : List Nat} {K : List Int} {f : Int → Int} {w : World} (h : Ents E K f w) {B : Nat} {e : TypeId} {size n : Nat} {v : Value} {xs : List Value} (ho : w.ownsRow B e size v n xs) (hne : e ≠ 69) : ∀ n, n < E.length → v.ownBlock ≠ some (g E n) :=
  fun n hn => own_ne ho (h n hn) hne
theorem Ents.mem {E : List Nat} {K : List Int} {f : Int → Int} {w : World} {c : Nat} {l : List (Int × Int)} (h : Ents E K f w) (hq : QV c K l) (hc : c = E.length) {i : Nat} (hi : i < l.length) :
    ∃ m : Nat, m < E.length ∧ (g l i).2 = (m : Int) ∧ eb E (g l i).2 = g E m ∧ w.heap[g E m]? = some (EC (g l i).1 (g l i).2 (f (g l i).2)) := by
  obtain ⟨h1, h2, h3⟩ := hq.mem _ (Hp.mem_g hi)
  have e : (((g l i).2.toNat : Nat) : Int) = (g l i).2 := by omega
  refine ⟨(g l i).2.toNat, by omega, e.symm, rfl, ?_⟩
  have h4 := h (g l i).2.toNat (by omega)
  rw [h3, e] at h4
  exact h4
end Go.Proofs.Ytpjdpcpcfcohiaa
