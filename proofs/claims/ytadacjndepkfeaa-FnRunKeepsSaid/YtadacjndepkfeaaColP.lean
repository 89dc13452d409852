/-
  The method Pop of impl's type columns, walked. Conditions: memory holds what it reads.
-/
import Derived.Test.YtadacjndepkfeaaItemsPop
import Derived.Deep.RegionHeld3
namespace Go.Proofs.Ytadacjndepkfeaa
open Go.RowKit Go.Shelf
open Hp (g swp Ev)

set_option maxHeartbeats 2000000 in
set_option maxRecDepth 100000 in
theorem columns_pop (w : World) (hb gb n c tb d : Nat) (x y : Int) (hn : n + 1 < 4611686018427387904) (hc : n + 1 ≤ c) (hd : n + 1 ≤ d) (hv : w.cell? ⟨hb, 0, none⟩ = some (.slice (some ⟨gb, 0, none⟩) (n + 1) c)) (hv2 : w.cell? ⟨hb, 1, none⟩ = some (.slice (some ⟨tb, 0, none⟩) (n + 1) d)) (hf : ∀ k, w.frozen? ⟨hb, k, none⟩ = false)
    (h1 : w.cell? ⟨gb, n, none⟩ = some (.int .i64 x)) (h2 : w.cell? ⟨tb, n, none⟩ = some (.int .i64 y)) (hlt : hb < w.heap.size) (hgb : gb < w.heap.size) (htb : tb < w.heap.size) :
    Calls Try.prog 71 #[.pointer (some ⟨hb, 0, none⟩)] w fun e w' => e = .returned (encI (x, y)) ∧
      ∃ q, w' = (((w.setCell ⟨hb, 0, none⟩ (.slice (some ⟨gb, 0, none⟩) n c)).setCell ⟨hb, 1, none⟩ (.slice (some ⟨tb, 0, none⟩) n d)).alloc (.cells #[.int .i64 x, .int .i64 y] 36)).drewN q := by
  have hnn : (n : Int) < (n : Int) + 1 := by omega
  go_enter Try.func71, Try.ntmps71
  go_wp2
  go_region
  all_goals (try go_wp2)
  all_goals go_ret
  all_goals exact ⟨rfl, 1, rfl⟩
end Go.Proofs.Ytadacjndepkfeaa
