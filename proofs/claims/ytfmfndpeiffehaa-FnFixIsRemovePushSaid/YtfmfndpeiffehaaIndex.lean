/-
  The helper function qIndex of the laws: what it returns. No conditions but those that each theorem names.
-/
import Derived.Test.YtfmfndpeiffehaaReaders
namespace Go.Proofs.Ytfmfndpeiffehaa
open Go.RowKit Go.Shelf

/-- qIndex, for both answers. -/
theorem qIndex_yes (w : World) (A : Option Addr) (n c : Nat) (i : Int) (h0 : 0 ≤ i) (h1 : i < n) :
    Calls Try.prog 16 #[.slice A n c, .int .i64 i] w fun e w' => e = .returned (.bool true) ∧ w = w' := by
  go_enter Try.func16, Try.ntmps16
  go_wp2
  go_ret
  exact ⟨rfl, rfl⟩
theorem qIndex_no (w : World) (A : Option Addr) (n c : Nat) (i : Int) (h : ¬ (0 ≤ i ∧ i < n)) :
    Calls Try.prog 16 #[.slice A n c, .int .i64 i] w fun e w' => e = .returned (.bool false) ∧ w = w' := by
  by_cases h0 : 0 ≤ i
  · have h1 : decide (i < (n : Int)) = false := decide_eq_false (by omega)
    clear h
    go_enter Try.func16, Try.ntmps16
    go_wp2
    go_ret
    exact ⟨rfl, rfl⟩
  · have h1 : i < 0 := by omega
    clear h h0
    go_enter Try.func16, Try.ntmps16
    go_wp2
    go_ret
    exact ⟨rfl, rfl⟩
end Go.Proofs.Ytfmfndpeiffehaa
