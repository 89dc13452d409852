/-
  The frame of a law's statement: how its arguments are read, and how 'it returned true and left old memory alone' closes the statement. No conditions but those that each theorem names.
-/
import Derived.Test.YtjojlnmcifkenaaRows
import Derived.Test.YtjojlnmcifkenaaNums
import Derived.ProofKit
import Derived.OpenShut
import Derived.JoinedCond
import Derived.SizedLaws
import Derived.Deep.SlicePairs
import Derived.Deep.CondSized
import Derived.Lib.SmallJoins
import Derived.Carry
namespace Go.Proofs.Ytjojlnmcifkenaa
open Go.ChangeShapes Go.WideShapes Go.ChangeAt Go.RowKit Go.Deep Go.Joins
open Hp (g swp Ev)

theorem own : ownKnob Try.prog.godebug = none := by kernel_rfl
theorem laidOut : laidOutB Try.prog = true := by kernel_rfl

section
variable {H : Type} {enc : TypeId × Value → H}

/-- The arguments read behind the call as they did before. -/
theorem trodAll_below {W W' : World} (hb : Below W.heap.size W W') : ∀ (ts : List TypeId) (vs : List Value) (ds : List (DataW H)) (p : List MemPlace),
    (∀ t ∈ ts, Try.prog.readableRec t = true ∧ t < Try.prog.types.size) → DataW.TrodAll enc Try.prog W 0 (fun _ => true) true ts vs ds p → (∀ x ∈ p, x.block < W.heap.size) →
    DataW.TrodAll enc Try.prog W' 0 (fun b => decide (b < W.heap.size)) true ts vs ds p
  | [], [], [], _, _, h, _ => h
  | t :: ts, v :: vs, d :: ds, ps, hts, h, hlt => by
    obtain ⟨p, q, h1, h2, rfl⟩ := h
    refine ⟨p, q, Below.trod laidOut (hts t (by simp)).1 (hts t (by simp)).2 h1 hb (fun x hx => hlt x (List.mem_append_left _ hx)), ?_, rfl⟩
    exact trodAll_below hb ts vs ds q (fun t' ht' => hts t' (List.mem_cons_of_mem _ ht')) h2 (fun x hx => hlt x (List.mem_append_right _ hx))
  | [], _ :: _, _, _, _, h, _ => h.elim
  | [], [], _ :: _, _, _, h, _ => h.elim
  | _ :: _, [], _, _, _, h, _ => h.elim
  | _ :: _, _ :: _, [], _, _, h, _ => h.elim

/-- A law that returned true and left old memory alone: what the statement asks behind the call. -/
theorem law_post {f : Func} {s : ChangeSpec} {W W' : World} {args : Array Value} {ds gs : List (DataW H)} {before : List MemPlace}
    (hW : DataW.Whole enc Try.prog f.params.toList s.vars false W args.toList ds gs before) (hv : s.vars = []) (hres : (s.fn H (ds ++ gs)).results = [.lit (.bool true)]) (hargs : (s.fn H (ds ++ gs)).args = ds) (hvars : (s.fn H (ds ++ gs)).vars = [])
    (hrt : f.resultTypes = #[4]) (hread : ∀ t ∈ f.params.toList, Try.prog.readableRec t = true ∧ t < Try.prog.types.size) (hb : Below W.heap.size W W') :
    s.post enc Try.prog f false true false false W args (.bool true) W' := by
  have hW0 := hW
  obtain ⟨p, q, hA, hV, rfl, _, _⟩ := hW
  have hlt := hW0.lt
  refine ⟨ds, gs, _, [], p, [], hW0, ?_, ?_, ?_, World.keptBut_mono (fun x hx => hx) (hb.frame _), fun h => by cases h⟩
  · rw [hres, hrt]
    exact trodAll_cons_mk (shut_bool Try.underlying4 _) trodAll_mk0
  · rw [hargs]
    exact trodAll_below hb _ _ _ _ hread hA (fun x hx => hlt x (List.mem_append_left _ hx))
  · rw [hvars, hv]
    rfl

theorem cells_int : Try.prog.cellsOf 3 = 1 := by kernel_rfl
theorem bytes_int : Try.prog.bytesOf 3 = 8 := by kernel_rfl

/-- An argument that is a slice of numbers. -/
theorem open_intslD {W : World} {r : Reach} {b0 : Nat} {v : Value} {d : DataW H} {p : List MemPlace} (hv : Value.okWide Try.prog W r b0 22 v) (h : DataW.Trod enc Try.prog W 0 (fun _ => true) true 22 v d p)
    (hreach : ∀ elems spare, d = .slice elems spare → (elems.length + spare.length) * 8 ≤ 140737488351232) :
    ∃ (A : Option Addr) (c : Nat) (l : List Int), v = .slice A l.length c ∧ Rd W A (clsN l) ∧ l.length * 8 ≤ 140737488351232 ∧ (l = [] ∨ ∃ elems spare, d = .slice elems spare ∧ elems.length = l.length) := by
  obtain ⟨a0, len, cap, rfl⟩ := okWide_slice Try.underlying22 hv
  obtain ⟨fuel, hf⟩ := h
  rcases open_slice Try.underlying22 hf with ⟨hc, hx⟩ | ⟨a, len', cap', m, k, D, Pl, hc, _, hl, hm, hmm, hx, hall⟩
  · simp [Value.cells] at hc
    obtain ⟨rfl, rfl, rfl⟩ := hc
    exact ⟨none, 0, [], rfl, .inl rfl, by simp, .inl rfl⟩
  · simp [Value.cells] at hc
    obtain ⟨rfl, rfl, rfl⟩ := hc
    simp only [if_true] at hmm
    subst hmm
    simp only [Prod.mk.injEq] at hx
    obtain ⟨rfl, rfl⟩ := hx
    have hre := hreach _ _ rfl
    simp only [List.length_map, List.length_range] at hre
    have hst : ∀ i, i < m → ∃ q : Int, W.cell? (a.add i) = some (.int .i64 q) := fun i hi => by
      obtain ⟨cs', h1, h2⟩ := hall i hi
      rw [cells_int] at h1
      obtain ⟨_, hlen, hat⟩ := World.cells?_some h1
      have h0 := hat 0 (by omega)
      match cs', hlen with
      | [v0], _ =>
        obtain ⟨n0, e0, _, _⟩ := DataW.trod_int Try.underlying3 h2
        simp only [List.cons.injEq, and_true] at e0
        subst e0
        refine ⟨n0, ?_⟩
        rw [Go.Deep.add_add] at h0
        simpa using h0
    obtain ⟨q, hq⟩ := choose_lt hst
    refine ⟨some a, m, (List.range len).map q, by simp, ?_, by simp; omega, .inr ⟨_, _, rfl, by simp⟩⟩
    by_cases h0 : len = 0
    · left; subst h0; rfl
    · right
      obtain ⟨b, o, spot⟩ := a
      have h00 := hq 0 (by omega)
      have hspot : spot = none := by simpa [Addr.add] using World.cell?_spot h00
      subst hspot
      refine ⟨b, o, rfl, ?_, ?_⟩
      · have := World.block_lt_of_cell? W _ h00
        rwa [add_lit] at this
      · intro j u hu
        simp only [clsN, List.getElem?_map] at hu
        by_cases hj : j < len
        · rw [List.getElem?_range hj] at hu
          simp at hu
          have := hq j (by omega)
          rw [add_lit] at this
          rw [this, hu]
        · rw [List.getElem?_eq_none (by simpa using hj)] at hu
          simp at hu
theorem open_intsl {W : World} {r : Reach} {b0 : Nat} {v : Value} {d : DataW H} {p : List MemPlace} (hv : Value.okWide Try.prog W r b0 22 v) (h : DataW.Trod enc Try.prog W 0 (fun _ => true) true 22 v d p)
    (hreach : ∀ elems spare, d = .slice elems spare → (elems.length + spare.length) * 8 ≤ 140737488351232) :
    ∃ (A : Option Addr) (c : Nat) (l : List Int), v = .slice A l.length c ∧ Rd W A (clsN l) ∧ l.length * 8 ≤ 140737488351232 := by
  obtain ⟨A, c, l, h1, h2, h3, _⟩ := open_intslD hv h hreach
  exact ⟨A, c, l, h1, h2, h3⟩
end
end Go.Proofs.Ytjojlnmcifkenaa
