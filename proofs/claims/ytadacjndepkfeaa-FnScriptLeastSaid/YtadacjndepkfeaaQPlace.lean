/-
  The helper function qPlace of the laws, and what each step of a script returns and leaves, said once more. Condition: the number of elements is not 0 and within the reach of a slice.
-/
import Derived.Test.YtadacjndepkfeaaLawRun
namespace Go.Proofs.Ytadacjndepkfeaa
open Go.RowKit Go.Shelf
open Hp (g swp Ev St plc)

theorem qPlace_any (w : World) (k : Int) (n : Nat) (hn : 0 < n) (hs : n < 4611686018427387904) :
    Calls Try.prog 23 #[.int .i64 k, .int .i64 (n : Int)] w fun e w' => e = .returned (.int .i64 (plc k n : Nat)) ∧ w = w' := by
  have h1 := Int.tmod_lt_of_pos k (show (0 : Int) < n by omega)
  have h2 := Int.lt_tmod_of_pos k (show (0 : Int) < n by omega)
  have h3 : (k.tmod n + n) % n = ((plc k n : Nat) : Int) := by rw [← Int.tmod_eq_emod_of_nonneg (a := k.tmod n + n) (by omega)]; exact Hp.plc_tmod k hn
  have H3 := Lib.hid h3
  clear h3
  have h4 : ((n : Int) == 0) = false := by simp; omega
  go_enter Try.func23, Try.ntmps23
  go_wp2
  go_ret
  exact ⟨by rw [← H3.out]; rfl, rfl⟩
/-- qPlace by a letter. -/
theorem qPlace_let (k : Int) (n p : Nat) (hp : p = plc k n) (hn : 0 < n) (hs : n < 4611686018427387904) (w : World) :
    Calls Try.prog 23 #[.int .i64 k, .int .i64 (n : Int)] w fun e w' => e = .returned (.int .i64 (p : Int)) ∧ w = w' := by
  rw [hp]; exact qPlace_any w k n hn hs

theorem stp_out (s : St) (X : List It) : (stpI s X).2 = if X.length = 0 then [] else if s.1 = 2 then [g X 0] else if s.1 = 3 then [g X (plc s.2.1 X.length)] else [] := by
  unfold stpI Hp.stp
  by_cases h0 : X.length = 0
  · rw [if_pos h0]; repeat' split
    all_goals first | rfl | (exfalso; omega)
  · rw [if_neg h0]
    by_cases h2 : s.1 = 2
    · rw [if_pos h2, if_neg (by omega), if_neg (by omega), if_neg h0, if_pos h2]
    · rw [if_neg h2]
      by_cases h3 : s.1 = 3
      · rw [if_pos h3, if_neg (by omega), if_neg (by omega), if_neg h0, if_neg h2, if_pos h3]
      · rw [if_neg h3]; repeat' split
        all_goals first | rfl | (exfalso; omega)
end Go.Proofs.Ytadacjndepkfeaa
