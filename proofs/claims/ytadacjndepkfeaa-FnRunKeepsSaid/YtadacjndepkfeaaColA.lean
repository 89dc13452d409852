/-
  The methods of impl's type columns, walked. Conditions: memory holds what they read.
-/
import Derived.Test.YtadacjndepkfeaaItemsPop
import Derived.Deep.RegionHeld3
namespace Go.Proofs.Ytadacjndepkfeaa
open Go.RowKit Go.Shelf
open Hp (g swp Ev)

theorem drewN_two (w : World) (a b : Nat) : (w.drewN a).drewN b = w.drewN (a + b) := by simp [World.drewN, Nat.add_assoc]

set_option maxHeartbeats 1000000 in
theorem columns_len (w : World) (A : Option Addr) (n c : Nat) (vt : Value) :
    Calls Try.prog 43 #[.agg #[.slice A n c, vt]] w fun e w' => e = .returned (.int .i64 n) ∧ w' = w.alloc (.cells #[.slice A n c, vt] 63) := by
  go_enter Try.func43, Try.ntmps43
  go_wp2
  go_ret
  exact ⟨rfl, rfl⟩

set_option maxHeartbeats 1000000 in
theorem columns_less (w : World) (gb n c : Nat) (vt : Value) (x y : Int) (i j : Nat) (hi : i < n) (hj : j < n) (hgb : gb < w.heap.size) (ci : w.cell? ⟨gb, i, none⟩ = some (.int .i64 x)) (cj : w.cell? ⟨gb, j, none⟩ = some (.int .i64 y)) :
    Calls Try.prog 70 #[.agg #[.slice (some ⟨gb, 0, none⟩) n c, vt], .int .i64 i, .int .i64 j] w fun e w' => e = .returned (.bool (decide (x < y))) ∧ ∃ q, w' = (w.alloc (.cells #[.slice (some ⟨gb, 0, none⟩) n c, vt] 63)).drewN q := by
  go_enter Try.func70, Try.ntmps70
  go_wp2
  go_quiet (fail)
  go_wp2
  go_ret
  exact ⟨rfl, nq, rfl⟩

set_option maxHeartbeats 2000000 in
set_option maxRecDepth 100000 in
theorem columns_swap_ne (w : World) (gb n c tb m d : Nat) (x y x2 y2 : Int) (i j : Nat) (hi : i < n) (hj : j < n) (hi2 : i < m) (hj2 : j < m) (hij : i ≠ j) (hgb : gb < w.heap.size) (htb : tb < w.heap.size) (hgt : gb ≠ tb)
    (ci : w.cell? ⟨gb, i, none⟩ = some (.int .i64 x)) (cj : w.cell? ⟨gb, j, none⟩ = some (.int .i64 y)) (di : w.cell? ⟨tb, i, none⟩ = some (.int .i64 x2)) (dj : w.cell? ⟨tb, j, none⟩ = some (.int .i64 y2)) (hf : ∀ k, w.frozen? ⟨gb, k, none⟩ = false) (hf2 : ∀ k, w.frozen? ⟨tb, k, none⟩ = false) :
    Calls Try.prog 73 #[.agg #[.slice (some ⟨gb, 0, none⟩) n c, .slice (some ⟨tb, 0, none⟩) m d], .int .i64 i, .int .i64 j] w fun e w' => e = .returned (.tuple #[]) ∧
      ∃ q, w' = (((((w.setCell ⟨gb, i, none⟩ (.int .i64 y)).setCell ⟨gb, j, none⟩ (.int .i64 x)).setCell ⟨tb, i, none⟩ (.int .i64 y2)).setCell ⟨tb, j, none⟩ (.int .i64 x2)).alloc (.cells #[.slice (some ⟨gb, 0, none⟩) n c, .slice (some ⟨tb, 0, none⟩) m d] 63)).drewN q := by
  go_enter Try.func73, Try.ntmps73
  go_wp2
  go_region
  all_goals (try go_wp2)
  all_goals go_region
  all_goals (try go_wp2)
  all_goals go_end0
  all_goals exact ⟨rfl, 2, rfl⟩

set_option maxHeartbeats 2000000 in
set_option maxRecDepth 100000 in
theorem columns_swap_eq (w : World) (gb n c tb m d : Nat) (x x2 : Int) (i : Nat) (hi : i < n) (hi2 : i < m) (hgb : gb < w.heap.size) (htb : tb < w.heap.size) (hgt : gb ≠ tb)
    (ci : w.cell? ⟨gb, i, none⟩ = some (.int .i64 x)) (di : w.cell? ⟨tb, i, none⟩ = some (.int .i64 x2)) (hf : ∀ k, w.frozen? ⟨gb, k, none⟩ = false) (hf2 : ∀ k, w.frozen? ⟨tb, k, none⟩ = false) :
    Calls Try.prog 73 #[.agg #[.slice (some ⟨gb, 0, none⟩) n c, .slice (some ⟨tb, 0, none⟩) m d], .int .i64 i, .int .i64 i] w fun e w' => e = .returned (.tuple #[]) ∧
      ∃ q, w' = (((((w.setCell ⟨gb, i, none⟩ (.int .i64 x)).setCell ⟨gb, i, none⟩ (.int .i64 x)).setCell ⟨tb, i, none⟩ (.int .i64 x2)).setCell ⟨tb, i, none⟩ (.int .i64 x2)).alloc (.cells #[.slice (some ⟨gb, 0, none⟩) n c, .slice (some ⟨tb, 0, none⟩) m d] 63)).drewN q := by
  go_enter Try.func73, Try.ntmps73
  go_wp2
  go_region
  all_goals (try go_wp2)
  all_goals go_region
  all_goals (try go_wp2)
  all_goals go_end0
  all_goals exact ⟨rfl, 2, rfl⟩
end Go.Proofs.Ytadacjndepkfeaa
