/-
  impl.HeapInit: what it returns. Condition: memory holds the list, within the reach of a slice.
-/
import Derived.Test.YtadacjndepkfeaaReaders
import Derived.Test.YtadacjndepkfeaaHeapInit
namespace Go.Proofs.Ytadacjndepkfeaa
open Go.RowKit Go.Shelf
open Hp (g swp Ev)

set_option maxHeartbeats 1000000 in
set_option maxRecDepth 100000 in
theorem heapInit_any (w : World) (A : Option Addr) (n c : Nat) (l : List It) (hl : n = l.length) (hr : Rd w A (cls l)) (hn : l.length * 16 ≤ 211106232598528) :
    Calls Try.prog 19 #[.slice A n c] w (NewIts w (Hp.init ltK l)) := by
  subst hl
  go_enter Try.func19, Try.ntmps19
  go_wp2_with fail
  refine (copied_any _ A _ c l rfl hr hn).mono ?_
  rintro e w1 ⟨A1, c1, rfl, ho1, hb1⟩
  have hs1 := hb1.size
  have hRI : RI w.heap.size w1 w1.heap.size l.length l [] (w1.alloc (.cells #[.slice A1 l.length c1] 52)) :=
    ⟨⟨.slice A1 l.length c1, heap_alloc_new _ _, ho1.alloc _⟩, hs1, (Below.refl _ _).alloc hs1 _, Nat.le_refl _, by omega⟩
  have HR1 := Lib.hid hRI
  have HB1 := Lib.hid hb1
  clear ho1 hb1 hr hRI
  go_wp2_with fail
  refine (init_any (items_HI w.heap.size w1 w1.heap.size l.length) l [] _ HR1.out (Nat.le_refl _)).mono ?_
  rintro e w2 ⟨rfl, hR2⟩
  obtain ⟨v2, hv2, ho2⟩ := hR2.own
  obtain ⟨A2, c2, rfl⟩ := own_slice ho2
  have hcell := cell_of_one hv2
  have HRD := Lib.hid (Rd.of_own ho2)
  have HB2 := Lib.hid (HB1.out.trans hR2.below)
  clear hv2 ho2 hR2
  go_wp2_with fail
  refine (copied_any w2 A2 _ c2 (Hp.init ltK l) (by simp) HRD.out (by simp; omega)).mono ?_
  rintro e w3 ⟨A3, c3, rfl, ho3, hb3⟩
  have HO3 := Lib.hid ho3
  have HB3 := Lib.hid (bnext HB2.out hb3)
  clear ho3 hb3 hcell
  go_wp2
  go_ret
  exact ⟨A3, c3, by simp, own_base HO3.out HB2.out.size, HB3.out⟩
end Go.Proofs.Ytadacjndepkfeaa
