/-
  The methods of impl's type queue, walked. Conditions: memory holds what they read.
-/
import Derived.Test.YtpjdpcpcfcohiaaQueue
namespace Go.Proofs.Ytpjdpcpcfcohiaa
open Go.RowKit Go.Shelf
open Hp (g swp Ev ix nums QV ltQ)

theorem drewN_two (w : World) (a b : Nat) : (w.drewN a).drewN b = w.drewN (a + b) := by simp [World.drewN, Nat.add_assoc]
theorem run_assert_entry (W : World) (a : Addr) : (Instr.typeAssert (.iface 67 (.pointer (some a))) 20 67 false).run Try.prog W = .ok (.pointer (some a)) W := by kernel_rfl

set_option maxHeartbeats 1000000 in
theorem queue_len (w : World) (A : Option Addr) (n c : Nat) :
    Calls Try.prog 70 #[.slice A n c] w fun e w' => e = .returned (.int .i64 n) ∧ w' = w := by
  go_enter Try.func70, Try.ntmps70
  go_wp2
  go_ret
  exact ⟨rfl, rfl⟩

set_option maxHeartbeats 1000000 in
set_option maxRecDepth 100000 in
theorem queue_less_ne (w : World) (gb n c e1 e2 : Nat) (k1 k2 : Int) (i j : Nat) (hi : i < n) (hj : j < n) (ci : w.cell? ⟨gb, i, none⟩ = some (.pointer (some ⟨e1, 0, none⟩))) (cj : w.cell? ⟨gb, j, none⟩ = some (.pointer (some ⟨e2, 0, none⟩)))
    (b1 : w.cell? ⟨e1, 0, none⟩ = some (.int .i64 k1)) (b2 : w.cell? ⟨e2, 0, none⟩ = some (.int .i64 k2)) (hk : (k1 != k2) = true) :
    Calls Try.prog 71 #[.slice (some ⟨gb, 0, none⟩) n c, .int .i64 i, .int .i64 j] w fun e w' => e = .returned (.bool (decide (k1 < k2))) ∧ ∃ q, w' = w.drewN q := by
  go_enter Try.func71, Try.ntmps71
  go_wp2
  go_quiet (fail)
  go_wp2
  go_quiet (fail)
  go_wp2
  go_ret
  exact ⟨rfl, _, drewN_two _ _ _⟩

set_option maxHeartbeats 1000000 in
set_option maxRecDepth 100000 in
theorem queue_less_eq (w : World) (gb n c e1 e2 : Nat) (k1 n1 n2 : Int) (i j : Nat) (hi : i < n) (hj : j < n) (ci : w.cell? ⟨gb, i, none⟩ = some (.pointer (some ⟨e1, 0, none⟩))) (cj : w.cell? ⟨gb, j, none⟩ = some (.pointer (some ⟨e2, 0, none⟩)))
    (b1 : w.cell? ⟨e1, 0, none⟩ = some (.int .i64 k1)) (b2 : w.cell? ⟨e2, 0, none⟩ = some (.int .i64 k1)) (d1 : w.cell? ⟨e1, 1, none⟩ = some (.int .i64 n1)) (d2 : w.cell? ⟨e2, 1, none⟩ = some (.int .i64 n2)) :
    Calls Try.prog 71 #[.slice (some ⟨gb, 0, none⟩) n c, .int .i64 i, .int .i64 j] w fun e w' => e = .returned (.bool (decide (n1 < n2))) ∧ ∃ q, w' = w.drewN q := by
  go_enter Try.func71, Try.ntmps71
  go_wp2
  go_quiet (fail)
  go_wp2
  go_quiet (fail)
  go_wp2
  go_ret
  exact ⟨rfl, _, drewN_two _ _ _⟩

set_option maxHeartbeats 2000000 in
set_option maxRecDepth 100000 in
theorem queue_swap_ne (w : World) (gb n c e1 e2 : Nat) (x1 x2 : Int) (i j : Nat) (hi : i < n) (hj : j < n) (hij : i ≠ j) (h12 : e1 ≠ e2) (hg1 : gb ≠ e1) (hg2 : gb ≠ e2) (ci : w.cell? ⟨gb, i, none⟩ = some (.pointer (some ⟨e1, 0, none⟩))) (cj : w.cell? ⟨gb, j, none⟩ = some (.pointer (some ⟨e2, 0, none⟩)))
    (b1 : w.cell? ⟨e1, 2, none⟩ = some (.int .i64 x1)) (b2 : w.cell? ⟨e2, 2, none⟩ = some (.int .i64 x2)) (hf : ∀ k, w.frozen? ⟨gb, k, none⟩ = false) (f1 : w.frozen? ⟨e1, 2, none⟩ = false) (f2 : w.frozen? ⟨e2, 2, none⟩ = false) :
    Calls Try.prog 72 #[.slice (some ⟨gb, 0, none⟩) n c, .int .i64 i, .int .i64 j] w fun e w' => e = .returned (.tuple #[]) ∧ ∃ q, w' = ((((w.setCell ⟨gb, i, none⟩ (ptr e2)).setCell ⟨gb, j, none⟩ (ptr e1)).setCell ⟨e2, 2, none⟩ (.int .i64 i)).setCell ⟨e1, 2, none⟩ (.int .i64 j)).drewN q := by
  unfold ptr
  go_enter Try.func72, Try.ntmps72
  go_wp2
  go_region
  all_goals (try go_wp2)
  all_goals go_end0
  all_goals exact ⟨rfl, 1, rfl⟩

set_option maxHeartbeats 2000000 in
set_option maxRecDepth 100000 in
theorem queue_swap_eq (w : World) (gb n c e1 : Nat) (x1 : Int) (i : Nat) (hi : i < n) (hg1 : gb ≠ e1) (ci : w.cell? ⟨gb, i, none⟩ = some (.pointer (some ⟨e1, 0, none⟩)))
    (b1 : w.cell? ⟨e1, 2, none⟩ = some (.int .i64 x1)) (hf : ∀ k, w.frozen? ⟨gb, k, none⟩ = false) (f1 : w.frozen? ⟨e1, 2, none⟩ = false) :
    Calls Try.prog 72 #[.slice (some ⟨gb, 0, none⟩) n c, .int .i64 i, .int .i64 i] w fun e w' => e = .returned (.tuple #[]) ∧ ∃ q, w' = ((((w.setCell ⟨gb, i, none⟩ (ptr e1)).setCell ⟨gb, i, none⟩ (ptr e1)).setCell ⟨e1, 2, none⟩ (.int .i64 i)).setCell ⟨e1, 2, none⟩ (.int .i64 i)).drewN q := by
  unfold ptr
  go_enter Try.func72, Try.ntmps72
  go_wp2
  go_region
  all_goals (try go_wp2)
  all_goals go_end0
  all_goals exact ⟨rfl, 1, rfl⟩

set_option maxHeartbeats 1000000 in
set_option maxRecDepth 100000 in
theorem queue_pop (w : World) (db gb n c e1 : Nat) (x1 : Int) (hn : n + 1 < 4611686018427387904) (hc : n + 1 ≤ c) (hv : w.cell? ⟨db, 0, none⟩ = some (.slice (some ⟨gb, 0, none⟩) (n + 1) c)) (hf : w.frozen? ⟨db, 0, none⟩ = false)
    (h1 : w.cell? ⟨gb, n, none⟩ = some (.pointer (some ⟨e1, 0, none⟩))) (b1 : w.cell? ⟨e1, 2, none⟩ = some (.int .i64 x1)) (f1 : w.frozen? ⟨e1, 2, none⟩ = false) (_hne : e1 ≠ db) :
    Calls Try.prog 73 #[.pointer (some ⟨db, 0, none⟩)] w fun e w' => e = .returned (.iface 67 (ptr e1)) ∧ w' = (w.setCell ⟨e1, 2, none⟩ (.int .i64 (-1))).setCell ⟨db, 0, none⟩ (.slice (some ⟨gb, 0, none⟩) n c) := by
  unfold ptr
  go_enter Try.func73, Try.ntmps73
  go_wp2
  go_ret
  exact ⟨rfl, rfl⟩
end Go.Proofs.Ytpjdpcpcfcohiaa
