/-
  impl's type items: its method Pop takes the last item away. Condition: memory holds the list (RI).
-/
import Derived.Test.YtadacjndepkfeaaItems
namespace Go.Proofs.Ytadacjndepkfeaa
open Go.RowKit Go.Shelf
open Hp (g swp Ev)

/-- An item as an interface value. -/
def encI (x : It) : Value := .iface 36 (.agg #[.int .i64 x.1, .int .i64 x.2])
def evI (x : It) : Int × Int := (x.1, x.2)
theorem run_assert_item (W : World) (x y : Int) : (Instr.typeAssert (.iface 36 (.agg #[.int .i64 x, .int .i64 y])) 20 36 false).run Try.prog W = .ok (.agg #[.int .i64 x, .int .i64 y]) W := by kernel_rfl

set_option maxHeartbeats 1000000 in
set_option maxRecDepth 100000 in
theorem items_pop (w : World) (hb ho gb n c : Nat) (x y : Int) (hn : n + 1 < 4611686018427387904) (hc : n + 1 ≤ c) (hv : w.cell? ⟨hb, ho, none⟩ = some (.slice (some ⟨gb, 0, none⟩) (n + 1) c)) (hf : w.frozen? ⟨hb, ho, none⟩ = false)
    (h1 : w.cell? ⟨gb, n * 2, none⟩ = some (.int .i64 x)) (h2 : w.cell? ⟨gb, n * 2 + 1, none⟩ = some (.int .i64 y)) (hlt : hb < w.heap.size) :
    Calls Try.prog 68 #[.pointer (some ⟨hb, ho, none⟩)] w fun e w' => e = .returned (encI (x, y)) ∧
      w' = (w.setCell ⟨hb, ho, none⟩ (.slice (some ⟨gb, 0, none⟩) n c)).alloc (.cells #[.int .i64 x, .int .i64 y] 36) := by
  go_enter Try.func68, Try.ntmps68
  go_wp2
  go_ret
  exact ⟨rfl, rfl⟩

theorem own_pop {w : World} {B gb n c : Nat} {l : List It} (h : w.ownsRow B 36 2 (.slice (some ⟨gb, 0, none⟩) (n + 1) c) (n + 1) (cls l)) (hl : l.length = n + 1) :
    w.ownsRow B 36 2 (.slice (some ⟨gb, 0, none⟩) n c) n (cls l.dropLast) := by
  refine ⟨by rw [length_cls, List.length_dropLast, hl]; rfl, ?_⟩
  rcases h.2 with ⟨hv, h0⟩ | ⟨g', cap, cur, hv, hb, hh, hnc, hcm, hcs, ht⟩
  · omega
  · injection hv with hv1 _ hv3
    injection hv1 with hv1
    injection hv1 with hv1 _ _
    subst hv1
    subst hv3
    refine .inr ⟨gb, c, cur, rfl, hb, hh, by omega, hcm, hcs, ?_⟩
    rw [cls_dropLast, hl, ← ht, List.take_take, Nat.add_sub_cancel, Nat.min_eq_left (by omega)]

theorem mthPop : (Try.prog.info? 54).bind (fun i => (i.methods.find? (·.name == "Pop")).map (fun m => (m.path, m.func))) = some (#[], some (68, true)) := by kernel_rfl

/-- The method Pop of items, the slice's variable at ⟨hb, ho⟩ in a block of other type than the items'. -/
theorem items_pop_own {w : World} {B hb ho : Nat} {v : Value} {l : List It} (hv : w.cell? ⟨hb, ho, none⟩ = some v) (hf : w.frozen? ⟨hb, ho, none⟩ = false) (hne : v.ownBlock ≠ some hb) (h : w.ownsRow B 36 2 v l.length (cls l)) (hl : 0 < l.length) (hs : l.length < 4611686018427387904) :
    Calls Try.prog 68 #[.pointer (some ⟨hb, ho, none⟩)] w fun e w' => e = .returned (encI (g l (l.length - 1))) ∧
      ∃ v', v'.ownBlock = v.ownBlock ∧ w' = (w.setCell ⟨hb, ho, none⟩ v').alloc (.cells #[.int .i64 (g l (l.length - 1)).1, .int .i64 (g l (l.length - 1)).2] 36) ∧ w'.ownsRow B 36 2 v' l.dropLast.length (cls l.dropLast) := by
  obtain ⟨n, hn⟩ : ∃ n, l.length = n + 1 := ⟨l.length - 1, by omega⟩
  obtain ⟨gb, cap, rfl, hcap⟩ : ∃ gb cap, v = .slice (some ⟨gb, 0, none⟩) l.length cap ∧ l.length ≤ cap := by
    rcases h.2 with ⟨_, h0⟩ | ⟨gb, cap, cur, hv, _, _, hc, _⟩
    · omega
    · exact ⟨gb, cap, hv, hc⟩
  have c1 := (h.cellAt (n * 2) (by omega)).trans (cls_at l n (by omega)).1
  have c2 := (h.cellAt (n * 2 + 1) (by omega)).trans (cls_at l n (by omega)).2
  rw [hn] at hv h hcap hne ⊢
  rw [Nat.add_sub_cancel]
  refine (items_pop w hb ho gb n cap _ _ (by omega) hcap hv hf c1 c2 (World.block_lt_of_cell? w _ hv)).mono ?_
  rintro e w' ⟨rfl, rfl⟩
  refine ⟨rfl, .slice (some ⟨gb, 0, none⟩) n cap, rfl, rfl, ?_⟩
  rw [List.length_dropLast, hn, Nat.add_sub_cancel]
  exact (ownsRow_setCell_other (a := ⟨hb, ho, none⟩) (own_pop h hn) (by simpa [Value.ownBlock] using hne) _).alloc _

theorem items_HPop (B : Nat) (w0 : World) (hb N : Nat) {M : Nat} : HPop 54 (.pointer (some ⟨hb, 0, none⟩)) encI evI M (RI B w0 hb N) where
  pop := fun l tr w h hl _ => by
    obtain ⟨v, hv, ho⟩ := h.own
    have hne := own_ne ho hv (by decide)
    have hlt := lt_of_block hv
    refine ⟨68, _, run_method_ptr _ mthPop Try.underlying54, enters_of Try.func68 (by kernel_rfl) rfl,
      (items_pop_own (cell_of_one hv) (free_of_one hv) hne ho hl (Nat.lt_of_le_of_lt h.size h.few)).mono ?_⟩
    rintro e w' ⟨rfl, v', hv', rfl, ho'⟩
    refine ⟨rfl, ⟨v', ?_, ho'⟩, h.low, (h.below.setCell h.low _).alloc (by simp [World.setCell]; have := h.low; omega) _, ?_, h.few⟩
    · rw [Below.heap_alloc _ _ _ (by simpa [World.setCell] using hlt)]
      exact one_setCell hv
    · rw [List.length_dropLast]; have := h.size; omega
end Go.Proofs.Ytadacjndepkfeaa
