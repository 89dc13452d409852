/-
  Arguments of a statement that bears a bound on its bulk: how they are read, and that they are short. No conditions but those that each theorem names.
-/
import Derived.Test.YtpjdpcpcfcohiaaOpenS
namespace Go.Proofs.Ytpjdpcpcfcohiaa
open Go.ChangeShapes Go.WideShapes Go.ChangeAt Go.RowKit Go.Deep Go.Joins
open Hp (g swp Ev St)

section
variable {H : Type} {enc : TypeId × Value → H}
theorem bulk_pos (d : DataW H) : 1 ≤ Rows.uptoBulk d := by
  cases d with
  | lit x => cases x <;> simp [Rows.uptoBulk]
  | nil => simp [Rows.uptoBulk]
  | ptr d => simp [Rows.uptoBulk]
  | slice a b => simp [Rows.uptoBulk]
  | agg a => simp [Rows.uptoBulk]
  | iface a d => simp [Rows.uptoBulk]
  | map a => simp [Rows.uptoBulk]
  | held a => simp [Rows.uptoBulk]
theorem bulk_all (ds : List (DataW H)) : ds.length ≤ Rows.uptoBulkAll ds := by
  induction ds with
  | nil => simp
  | cons d ds ih =>
    have := bulk_pos d
    simp only [Rows.uptoBulkAll, List.length_cons]
    omega
theorem bulk_len {α : Type} {l : List α} {d : DataW H} (h : l = [] ∨ ∃ elems spare, d = .slice elems spare ∧ elems.length = l.length) : l.length ≤ Rows.uptoBulk d := by
  rcases h with rfl | ⟨elems, spare, rfl, h⟩
  · simp
  · have := bulk_all elems
    simp only [Rows.uptoBulk]
    omega
theorem open_intslU {W : World} {r : Reach} {b0 : Nat} {v : Value} {d : DataW H} {p : List MemPlace} (hv : Value.okWide Try.prog W r b0 38 v) (h : DataW.Trod enc Try.prog W 0 (fun _ => true) true 38 v d p)
    (hreach : ∀ elems spare, d = .slice elems spare → (elems.length + spare.length) * 8 ≤ 140737488351232) :
    ∃ (A : Option Addr) (c : Nat) (l : List Int), v = .slice A l.length c ∧ Rd W A (clsN l) ∧ l.length * 8 ≤ 140737488351232 ∧ l.length ≤ Rows.uptoBulk d := by
  obtain ⟨A, c, l, h1, h2, h3, h4⟩ := open_intslD hv h hreach
  exact ⟨A, c, l, h1, h2, h3, bulk_len h4⟩
theorem open_stepsU {W : World} {r : Reach} {b0 : Nat} {v : Value} {d : DataW H} {p : List MemPlace} (hv : Value.okWide Try.prog W r b0 22 v) (h : DataW.Trod enc Try.prog W 0 (fun _ => true) true 22 v d p)
    (hreach : ∀ elems spare, d = .slice elems spare → (elems.length + spare.length) * 32 ≤ 140737488351232) :
    ∃ (A : Option Addr) (c : Nat) (l : List St), v = .slice A l.length c ∧ Rd W A (clsT l) ∧ l.length * 32 ≤ 140737488351232 ∧ l.length ≤ Rows.uptoBulk d := by
  obtain ⟨A, c, l, h1, h2, h3, _, h4⟩ := open_stepsD hv h hreach
  exact ⟨A, c, l, h1, h2, h3, bulk_len h4⟩
end
end Go.Proofs.Ytpjdpcpcfcohiaa
