/-
  An argument that is a slice of steps: how it is read. No conditions but those that each theorem names.
-/
import Derived.Test.YtadacjndepkfeaaOpen
import Derived.Test.YtadacjndepkfeaaSteps
namespace Go.Proofs.Ytadacjndepkfeaa
open Go.ChangeShapes Go.WideShapes Go.ChangeAt Go.RowKit Go.Deep Go.Joins
open Hp (g swp Ev St)

theorem cells_lawStep : Try.prog.cellsOf 34 = 4 := by kernel_rfl
theorem bytes_lawStep : Try.prog.bytesOf 34 = 32 := by kernel_rfl

section
variable {H : Type} {enc : TypeId × Value → H}
/-- One step out of its four cells. -/
theorem open_step {W : World} {n : Nat} {cs : List Value} {x : DataW H × List MemPlace} (h : DataW.trod enc Try.prog W 0 (fun _ => true) true n 34 cs = some x) : ∃ s : St, cs = clT s := by
  obtain ⟨xs, k, _, _, hl, hxl, hf⟩ := DataW.trod_struct Try.underlying34 h
  rw [cells_lawStep] at hl
  match cs, hl, xs, hxl with
  | [v0, v1, v2, v3], _, [y0, y1, y2, y3], _ =>
    have g0 := hf 0 _ rfl
    have g1 := hf 1 _ rfl
    have g2 := hf 2 _ rfl
    have g3 := hf 3 _ rfl
    simp [cells_int] at g0 g1 g2 g3
    obtain ⟨n0, e0, _, _⟩ := DataW.trod_int Try.underlying3 g0
    obtain ⟨n1, e1, _, _⟩ := DataW.trod_int Try.underlying3 g1
    obtain ⟨n2, e2, _, _⟩ := DataW.trod_int Try.underlying3 g2
    obtain ⟨n3, e3, _, _⟩ := DataW.trod_int Try.underlying3 g3
    simp only [List.cons.injEq, and_true] at e0 e1 e2 e3
    subst e0
    subst e1
    subst e2
    subst e3
    exact ⟨(n0, n1, n2, n3), rfl⟩

theorem open_stepsD {W : World} {r : Reach} {b0 : Nat} {v : Value} {d : DataW H} {p : List MemPlace} (hv : Value.okWide Try.prog W r b0 23 v) (h : DataW.Trod enc Try.prog W 0 (fun _ => true) true 23 v d p)
    (hreach : ∀ elems spare, d = .slice elems spare → (elems.length + spare.length) * 32 ≤ 140737488351232) :
    ∃ (A : Option Addr) (c : Nat) (l : List St), v = .slice A l.length c ∧ Rd W A (clsT l) ∧ l.length * 32 ≤ 140737488351232 ∧ l.length ≤ c ∧ (l = [] ∨ ∃ elems spare, d = .slice elems spare ∧ elems.length = l.length) := by
  obtain ⟨a0, len, cap, rfl⟩ := okWide_slice Try.underlying23 hv
  obtain ⟨fuel, hf⟩ := h
  rcases open_slice Try.underlying23 hf with ⟨hc, hx⟩ | ⟨a, len', cap', m, k, D, Pl, hc, _, hl, hm, hmm, hx, hall⟩
  · simp [Value.cells] at hc
    obtain ⟨rfl, rfl, rfl⟩ := hc
    exact ⟨none, 0, [], rfl, .inl rfl, by simp, by simp, .inl rfl⟩
  · simp [Value.cells] at hc
    obtain ⟨rfl, rfl, rfl⟩ := hc
    simp only [if_true] at hmm
    subst hmm
    simp only [Prod.mk.injEq] at hx
    obtain ⟨rfl, rfl⟩ := hx
    have hre := hreach _ _ rfl
    simp only [List.length_map, List.length_range] at hre
    have hst : ∀ i, i < m → ∃ q : St, ∀ j, j < 4 → W.cell? (a.add (i * 4 + j)) = (clT q)[j]? := fun i hi => by
      obtain ⟨cs', h1, h2⟩ := hall i hi
      rw [cells_lawStep] at h1
      obtain ⟨s, rfl⟩ := open_step h2
      obtain ⟨_, _, hat⟩ := World.cells?_some h1
      refine ⟨s, fun j hj => ?_⟩
      have := hat j hj
      rwa [Go.Deep.add_add] at this
    obtain ⟨q, hq⟩ := choose_lt hst
    refine ⟨some a, m, (List.range len).map q, by simp, ?_, by simp; omega, by simpa using hl, .inr ⟨_, _, rfl, by simp⟩⟩
    by_cases h0 : len = 0
    · left; subst h0; rfl
    · right
      obtain ⟨b, o, spot⟩ := a
      have h00 := hq 0 (by omega) 0 (by omega)
      have hspot : spot = none := by
        have h1 : W.cell? ((⟨b, o, spot⟩ : Addr).add (0 * 4 + 0)) = some (.int .i64 (q 0).1) := h00
        simpa [Addr.add] using World.cell?_spot h1
      subst hspot
      refine ⟨b, o, rfl, ?_, ?_⟩
      · have h1 : W.cell? ((⟨b, o, none⟩ : Addr).add (0 * 4 + 0)) = some (.int .i64 (q 0).1) := h00
        have := World.block_lt_of_cell? W _ h1
        rwa [add_lit] at this
      · intro j u hu
        have hlen := length_clsT ((List.range len).map q)
        have hj : j < (clsT ((List.range len).map q)).length := by
          rcases Nat.lt_or_ge j (clsT ((List.range len).map q)).length with h | h
          · exact h
          · rw [List.getElem?_eq_none h] at hu; cases hu
        rw [hlen, List.length_map, List.length_range] at hj
        have hgi : g ((List.range len).map q) (j / 4) = q (j / 4) := by
          rw [← Hp.g_eq (by simp; omega)]; simp
        have hc2 := clsT_at ((List.range len).map q) (j / 4) (by simp; omega)
        rw [hgi] at hc2
        have hcell := hq (j / 4) (by omega) (j % 4) (by omega)
        rw [add_lit, show j / 4 * 4 + j % 4 = j by omega] at hcell
        rw [hcell]
        have hc : j % 4 = 0 ∨ j % 4 = 1 ∨ j % 4 = 2 ∨ j % 4 = 3 := by omega
        rcases hc with e | e | e | e
        · have ej : j = j / 4 * 4 := by omega
          rw [ej, hc2.1] at hu
          rw [e, ← hu]; rfl
        · have ej : j = j / 4 * 4 + 1 := by omega
          rw [ej, hc2.2.1] at hu
          rw [e, ← hu]; rfl
        · have ej : j = j / 4 * 4 + 2 := by omega
          rw [ej, hc2.2.2.1] at hu
          rw [e, ← hu]; rfl
        · have ej : j = j / 4 * 4 + 3 := by omega
          rw [ej, hc2.2.2.2] at hu
          rw [e, ← hu]; rfl
theorem open_stepsC {W : World} {r : Reach} {b0 : Nat} {v : Value} {d : DataW H} {p : List MemPlace} (hv : Value.okWide Try.prog W r b0 23 v) (h : DataW.Trod enc Try.prog W 0 (fun _ => true) true 23 v d p)
    (hreach : ∀ elems spare, d = .slice elems spare → (elems.length + spare.length) * 32 ≤ 140737488351232) :
    ∃ (A : Option Addr) (c : Nat) (l : List St), v = .slice A l.length c ∧ Rd W A (clsT l) ∧ l.length * 32 ≤ 140737488351232 ∧ l.length ≤ c := by
  obtain ⟨A, c, l, h1, h2, h3, h4, _⟩ := open_stepsD hv h hreach
  exact ⟨A, c, l, h1, h2, h3, h4⟩
theorem open_steps {W : World} {r : Reach} {b0 : Nat} {v : Value} {d : DataW H} {p : List MemPlace} (hv : Value.okWide Try.prog W r b0 23 v) (h : DataW.Trod enc Try.prog W 0 (fun _ => true) true 23 v d p)
    (hreach : ∀ elems spare, d = .slice elems spare → (elems.length + spare.length) * 32 ≤ 140737488351232) :
    ∃ (A : Option Addr) (c : Nat) (l : List St), v = .slice A l.length c ∧ Rd W A (clsT l) ∧ l.length * 32 ≤ 140737488351232 := by
  obtain ⟨A, c, l, h1, h2, h3, _⟩ := open_stepsC hv h hreach
  exact ⟨A, c, l, h1, h2, h3⟩
end
end Go.Proofs.Ytadacjndepkfeaa
