/-
  The frame of a law's statement: how its arguments are read, and how 'it returned true and left old memory alone' closes the statement. No conditions but those that each theorem names.
-/
import Derived.Test.YtadacjndepkfeaaRows
import Derived.Test.YtadacjndepkfeaaToItems
import Derived.ProofKit
import Derived.OpenShut
import Derived.JoinedCond
import Derived.SizedLaws
import Derived.Deep.SlicePairs
import Derived.Deep.CondSized
import Derived.Lib.SmallJoins
import Derived.Carry
namespace Go.Proofs.Ytadacjndepkfeaa
open Go.ChangeShapes Go.WideShapes Go.ChangeAt Go.RowKit Go.Deep Go.Joins
open Hp (g swp Ev)

theorem own : ownKnob Try.prog.godebug = none := by kernel_rfl
theorem laidOut : laidOutB Try.prog = true := by kernel_rfl

section
variable {H : Type} {enc : TypeId × Value → H}

/-- The arguments read behind the call as they did before. -/
theorem trodAll_below {W W' : World} (hb : Below W.heap.size W W') : ∀ (ts : List TypeId) (vs : List Value) (ds : List (DataW H)) (p : List MemPlace),
    (∀ t ∈ ts, Try.prog.readableRec t = true ∧ t < Try.prog.types.size) → DataW.TrodAll enc Try.prog W 0 (fun _ => true) true ts vs ds p → (∀ x ∈ p, x.block < W.heap.size) →
    DataW.TrodAll enc Try.prog W' 0 (fun b => decide (b < W.heap.size)) true ts vs ds p
  | [], [], [], _, _, h, _ => h
  | t :: ts, v :: vs, d :: ds, ps, hts, h, hlt => by
    obtain ⟨p, q, h1, h2, rfl⟩ := h
    refine ⟨p, q, Below.trod laidOut (hts t (by simp)).1 (hts t (by simp)).2 h1 hb (fun x hx => hlt x (List.mem_append_left _ hx)), ?_, rfl⟩
    exact trodAll_below hb ts vs ds q (fun t' ht' => hts t' (List.mem_cons_of_mem _ ht')) h2 (fun x hx => hlt x (List.mem_append_right _ hx))
  | [], _ :: _, _, _, _, h, _ => h.elim
  | [], [], _ :: _, _, _, h, _ => h.elim
  | _ :: _, [], _, _, _, h, _ => h.elim
  | _ :: _, _ :: _, [], _, _, h, _ => h.elim

/-- A law that returned true and left old memory alone: what the statement asks behind the call. -/
theorem law_post {f : Func} {s : ChangeSpec} {W W' : World} {args : Array Value} {ds gs : List (DataW H)} {before : List MemPlace}
    (hW : DataW.Whole enc Try.prog f.params.toList s.vars false W args.toList ds gs before) (hv : s.vars = []) (hres : (s.fn H (ds ++ gs)).results = [.lit (.bool true)]) (hargs : (s.fn H (ds ++ gs)).args = ds) (hvars : (s.fn H (ds ++ gs)).vars = [])
    (hrt : f.resultTypes = #[4]) (hread : ∀ t ∈ f.params.toList, Try.prog.readableRec t = true ∧ t < Try.prog.types.size) (hb : Below W.heap.size W W') :
    s.post enc Try.prog f false true false false W args (.bool true) W' := by
  have hW0 := hW
  obtain ⟨p, q, hA, hV, rfl, _, _⟩ := hW
  have hlt := hW0.lt
  refine ⟨ds, gs, _, [], p, [], hW0, ?_, ?_, ?_, World.keptBut_mono (fun x hx => hx) (hb.frame _), fun h => by cases h⟩
  · rw [hres, hrt]
    exact trodAll_cons_mk (shut_bool Try.underlying4 _) trodAll_mk0
  · rw [hargs]
    exact trodAll_below hb _ _ _ _ hread hA (fun x hx => hlt x (List.mem_append_left _ hx))
  · rw [hvars, hv]
    rfl

theorem cells_lawItem : Try.prog.cellsOf 55 = 2 := by kernel_rfl
theorem bytes_lawItem : Try.prog.bytesOf 55 = 16 := by kernel_rfl
theorem cells_int : Try.prog.cellsOf 3 = 1 := by kernel_rfl

/-- An argument that is a slice of items. -/
theorem open_items {W : World} {r : Reach} {b0 : Nat} {v : Value} {d : DataW H} {p : List MemPlace} (hv : Value.okWide Try.prog W r b0 22 v) (h : DataW.Trod enc Try.prog W 0 (fun _ => true) true 22 v d p)
    (hreach : ∀ elems spare, d = .slice elems spare → (elems.length + spare.length) * 16 ≤ 140737488351232) :
    ∃ (A : Option Addr) (c : Nat) (l : List It), v = .slice A l.length c ∧ Rd W A (cls l) ∧ l.length * 16 ≤ 140737488351232 := by
  obtain ⟨a0, len, cap, rfl⟩ := okWide_slice Try.underlying22 hv
  obtain ⟨fuel, hf⟩ := h
  rcases open_slice_pairs Try.underlying22 Try.underlying55 cells_lawItem rfl rfl cells_int cells_int hf with ⟨hc, hx⟩ | ⟨a, len', cap', m, k, V0, V1, D0, D1, P0, P1, hc, _, hl, hm, hmm, hx, hall⟩
  · simp [Value.cells] at hc
    obtain ⟨rfl, rfl, rfl⟩ := hc
    exact ⟨none, 0, [], rfl, .inl rfl, by simp⟩
  · simp [Value.cells] at hc
    obtain ⟨rfl, rfl, rfl⟩ := hc
    simp only [if_true] at hmm
    subst hmm
    simp only [Prod.mk.injEq] at hx
    obtain ⟨rfl, rfl⟩ := hx
    have hre := hreach _ _ rfl
    simp only [List.length_map, List.length_range] at hre
    have hint : ∀ i, i < m → ∃ q : Int × Int, V0 i = .int .i64 q.1 ∧ V1 i = .int .i64 q.2 := fun i hi => by
      obtain ⟨n0, h1, _, _⟩ := DataW.trod_int Try.underlying3 (hall i hi).2.2.1
      obtain ⟨n1, h2, _, _⟩ := DataW.trod_int Try.underlying3 (hall i hi).2.2.2
      simp only [List.cons.injEq, and_true] at h1 h2
      exact ⟨(n0, n1), h1, h2⟩
    obtain ⟨q, hq⟩ := choose_lt hint
    refine ⟨some a, m, (List.range len).map q, by simp, ?_, by simp; omega⟩
    by_cases h0 : len = 0
    · left; subst h0; rfl
    · right
      obtain ⟨b, o, spot⟩ := a
      have hspot : spot = none := by simpa [Addr.add] using World.cell?_spot (hall 0 (by omega)).1
      subst hspot
      refine ⟨b, o, rfl, ?_, ?_⟩
      · have := World.block_lt_of_cell? W _ (hall 0 (by omega)).1
        rwa [add_lit] at this
      · intro j u hu
        have hlen := length_cls ((List.range len).map q)
        have hj : j < (cls ((List.range len).map q)).length := by
          rcases Nat.lt_or_ge j (cls ((List.range len).map q)).length with h | h
          · exact h
          · rw [List.getElem?_eq_none h] at hu; cases hu
        rw [hlen, List.length_map, List.length_range] at hj
        have hgi : g ((List.range len).map q) (j / 2) = q (j / 2) := by
          rw [← Hp.g_eq (by simp; omega)]; simp
        have hc2 := cls_at ((List.range len).map q) (j / 2) (by simp; omega)
        rw [hgi] at hc2
        rcases Nat.mod_two_eq_zero_or_one j with h2 | h2
        · have e : j = j / 2 * 2 := by omega
          rw [e] at hu
          rw [hc2.1] at hu
          injection hu with hu
          subst hu
          have := (hall (j / 2) (by omega)).1
          rw [(hq (j / 2) (by omega)).1, add_lit, ← e] at this
          exact this
        · have e : j = j / 2 * 2 + 1 := by omega
          rw [e] at hu
          rw [hc2.2] at hu
          injection hu with hu
          subst hu
          have := (hall (j / 2) (by omega)).2.1
          rw [(hq (j / 2) (by omega)).2, add_lit, ← e] at this
          exact this

/-- An argument that is an item. -/
theorem open_item {W : World} {r : Reach} {b0 : Nat} {v : Value} {d : DataW H} {p : List MemPlace} (hv : Value.okWide Try.prog W r b0 55 v) (h : DataW.Trod enc Try.prog W 0 (fun _ => true) true 55 v d p) :
    ∃ x : It, v = .agg #[.int .i64 x.1, .int .i64 x.2] := by
  obtain ⟨c0, c1, y0, y1, n, rfl, _, _, h0, h1⟩ := open_agg2 Try.underlying55 (by kernel_rfl) cells_lawItem hv h
  obtain ⟨n0, e0, _, _⟩ := DataW.trod_int Try.underlying3 h0
  obtain ⟨n1, e1, _, _⟩ := DataW.trod_int Try.underlying3 h1
  simp only [List.cons.injEq, and_true] at e0 e1
  subst e0
  subst e1
  exact ⟨(n0, n1), rfl⟩
end
end Go.Proofs.Ytadacjndepkfeaa
