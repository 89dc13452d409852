/-
  impl.HeapFix: what it returns. Condition: memory holds the list; the index is one of it; the list is within the reach of a slice.
-/
import Derived.Test.YtadacjndepkfeaaToItems
import Derived.Test.YtadacjndepkfeaaHeapFix
namespace Go.Proofs.Ytadacjndepkfeaa
open Go.RowKit Go.Shelf
open Hp (g swp Ev)

/-- One element of an own slice of items is stored. -/
theorem own_store {w : World} {B : Nat} {gb n cap : Nat} {l : List It} (h : w.ownsRow B 36 2 (.slice (some ⟨gb, 0, none⟩) n cap) n (cls l)) (hn : n = l.length) (i : Nat) (hi : i < l.length) (x : It) :
    ((w.setCell ⟨gb, i * 2, none⟩ (.int .i64 x.1)).setCell ⟨gb, i * 2 + 1, none⟩ (.int .i64 x.2)).ownsRow B 36 2 (.slice (some ⟨gb, 0, none⟩) n cap) n (cls (l.set i x)) := by
  subst hn
  have := ((h.stored (i * 2) (.int .i64 x.1)).1.stored (i * 2 + 1) (.int .i64 x.2)).1
  rwa [← cls_set l i x hi] at this

set_option maxHeartbeats 1000000 in
set_option maxRecDepth 100000 in
theorem heapFix_any (w : World) (A : Option Addr) (n c : Nat) (l : List It) (i : Nat) (x : It) (hl : n = l.length) (hr : Rd w A (cls l)) (hn : l.length * 16 ≤ 211106232598528) (hi : i < l.length) :
    Calls Try.prog 24 #[.slice A n c, .int .i64 (i : Int), .agg #[.int .i64 x.1, .int .i64 x.2]] w (NewIts w (Hp.fix ltK (l.set i x) i)) := by
  subst hl
  obtain ⟨x1, x2⟩ := x
  go_enter Try.func24, Try.ntmps24
  go_wp2_with fail
  refine (copied_any _ A _ c l rfl (hr.below ((Below.refl _ _).alloc (Nat.le_refl _) _) (Nat.le_refl _)) (by omega)).mono ?_
  rintro e w1 ⟨A1, c1, rfl, ho1, hb1⟩
  have hs1 := hb1.size
  obtain ⟨gb, hA1⟩ : ∃ gb, A1 = some ⟨gb, 0, none⟩ := by
    rcases ho1.2 with ⟨_, h0⟩ | ⟨gb, cap, cur, hv, _⟩
    · omega
    · exact ⟨gb, by injection hv⟩
  subst hA1
  have hx1 : w1.cell? ⟨w.heap.size, 0, none⟩ = some (.int .i64 x1) := by
    rw [hb1.cell (p := ⟨w.heap.size, 0, none⟩) (by simp)]; simp
  have hx2 : w1.cell? ⟨w.heap.size, 1, none⟩ = some (.int .i64 x2) := by
    rw [hb1.cell (p := ⟨w.heap.size, 1, none⟩) (by simp)]; simp
  have ci := (ho1.cellAt (i * 2) (by omega)).trans (cls_at l i hi).1
  have ci' := (ho1.cellAt (i * 2 + 1) (by omega)).trans (cls_at l i hi).2
  have hf := fun k => ho1.frozenAt k
  have hlt := ho1.lt gb rfl
  have HO1 := Lib.hid ho1
  have HB1 := Lib.hid hb1
  clear ho1 hb1 hr
  have hz : w.heap.size < w1.heap.size := by simp at hs1; omega
  have hgz : gb < w1.heap.size := hlt.2
  have hgw : w.heap.size < gb := by have := hlt.1; simp at this; omega
  clear hs1 hlt
  go_wp2_with fail
  have hRI : ∀ W, W = ((w1.setCell ⟨gb, i * 2, none⟩ (.int .i64 x1)).setCell ⟨gb, i * 2 + 1, none⟩ (.int .i64 x2)).alloc (.cells #[.slice (some ⟨gb, 0, none⟩) l.length c1] 52) →
      RI (w.heap.size + 1) w1 w1.heap.size l.length (l.set i (x1, x2)) [] W := by
    rintro W rfl
    refine ⟨⟨.slice (some ⟨gb, 0, none⟩) l.length c1, ?_, ?_⟩, by omega, ?_, by simp, by omega⟩
    · have := heap_alloc_new ((w1.setCell ⟨gb, i * 2, none⟩ (.int .i64 x1)).setCell ⟨gb, i * 2 + 1, none⟩ (.int .i64 x2)) (.cells #[.slice (some ⟨gb, 0, none⟩) l.length c1] 52)
      simpa [World.setCell] using this
    · rw [List.length_set]
      have := own_store HO1.out rfl i hi (x1, x2)
      simp only [heap_size_alloc] at this
      exact this.alloc _
    · exact (((Below.refl _ _).setCell (by simp; omega) _).setCell (by simp; omega) _).alloc (by simp [World.setCell]; omega) _
  refine (fix_any (items_HI (w.heap.size + 1) w1 w1.heap.size l.length) (l.set i (x1, x2)) [] i _ (hRI _ rfl) (by simpa using hi) (Nat.le_refl _)).mono ?_
  rintro e w2 ⟨rfl, hR2⟩
  obtain ⟨v2, hv2, ho2⟩ := hR2.own
  obtain ⟨A2, c2, rfl⟩ := own_slice ho2
  have hcell := cell_of_one hv2
  have hb2 : Below (w.heap.size + 1) w1 w2 := hR2.below
  have hrd := Rd.of_own ho2
  have HRD := Lib.hid hrd
  have HB2 := Lib.hid hb2
  clear hv2 ho2 hR2 hRI hrd hb2
  go_wp2_with fail
  refine (copied_any w2 A2 _ c2 (Hp.fix ltK (l.set i (x1, x2)) i) (by simp) HRD.out (by simp; omega)).mono ?_
  rintro e w3 ⟨A3, c3, rfl, ho3, hb3⟩
  have HO3 := Lib.hid ho3
  have HB3 := Lib.hid hb3
  clear ho3 hb3 hcell
  go_wp2
  go_ret
  have hb0 : Below w.heap.size w w2 := (((Below.refl _ _).alloc (Nat.le_refl _) _).trans (HB1.out.mono (by simp))).trans (HB2.out.mono (by omega))
  refine ⟨A3, c3, by simp, ?_, hb0.trans (HB3.out.mono hb0.size)⟩
  exact own_base HO3.out hb0.size
end Go.Proofs.Ytadacjndepkfeaa
