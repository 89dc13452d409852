/-
  impl.HeapPush: what it returns. Condition: memory holds the list; the longer list is within the reach of a slice.
-/
import Derived.Test.YtfmfndpeiffehaaNewits
import Derived.Test.YtfmfndpeiffehaaItemsPush
namespace Go.Proofs.Ytfmfndpeiffehaa
open Go.RowKit Go.Shelf
open Hp (g swp Ev)

set_option maxHeartbeats 1000000 in
set_option maxRecDepth 100000 in
theorem heapPush_any (w : World) (A : Option Addr) (n c : Nat) (l : List It) (x : It) (hl : n = l.length) (hr : Rd w A (cls l)) (hn : (l.length + 1) * 16 ≤ 211106232598528) :
    Calls Try.prog 32 #[.slice A n c, .agg #[.int .i64 x.1, .int .i64 x.2]] w (NewIts w (Hp.push ltK l x)) := by
  subst hl
  obtain ⟨x1, x2⟩ := x
  have hb0 := (Below.refl w.heap.size w).alloc (Nat.le_refl _) (.cells #[.int .i64 x1, .int .i64 x2] 35)
  go_enter Try.func32, Try.ntmps32
  go_wp2_with fail
  refine (copied_any _ A _ c l rfl (hr.below hb0 (Nat.le_refl _)) (by omega)).mono ?_
  rintro e w1 ⟨A1, c1, rfl, ho1, hb1⟩
  have hs1 := hb1.size
  rw [heap_size_alloc] at hs1 ho1
  have k1 := (hb1.cell (p := ⟨w.heap.size, 0, none⟩) (by simp)).trans (show (w.alloc (.cells #[.int .i64 x1, .int .i64 x2] 35)).cell? ⟨w.heap.size, 0, none⟩ = some (.int .i64 x1) by simp)
  have k2 := (hb1.cell (p := ⟨w.heap.size, 1, none⟩) (by simp)).trans (show (w.alloc (.cells #[.int .i64 x1, .int .i64 x2] 35)).cell? ⟨w.heap.size, 1, none⟩ = some (.int .i64 x2) by simp)
  have HR1 := Lib.hid (RI.start ho1 hs1 (Nat.le_succ _) (show l.length + 1 < 4611686018427387904 by omega))
  have HB1 := Lib.hid (bnext hb0 hb1)
  have hz : w.heap.size < w1.heap.size := hs1
  clear ho1 hb1 hb0 hr hs1
  go_wp2_with fail
  refine (push_any (items_HI (w.heap.size + 1) w1 w1.heap.size (l.length + 1)) (items_HPush (w.heap.size + 1) w1 w1.heap.size (l.length + 1) hn) l [] (x1, x2) _ HR1.out (Nat.lt_succ_self _) (Nat.lt_succ_self _)).mono ?_
  rintro e w2 ⟨rfl, hR2⟩
  obtain ⟨v2, hv2, ho2⟩ := hR2.own
  obtain ⟨A2, c2, rfl⟩ := own_slice ho2
  have hcell := cell_of_one hv2
  rw [Hp.length_push] at hcell
  have HRD := Lib.hid (Rd.of_own ho2)
  have HB2 := Lib.hid (HB1.out.trans (hR2.below.mono (by omega)))
  clear hv2 ho2 hR2 k1 k2
  go_wp2_with fail
  refine (copied_any w2 A2 _ c2 (Hp.push ltK l (x1, x2)) (by simp) HRD.out (by simp; omega)).mono ?_
  rintro e w3 ⟨A3, c3, rfl, ho3, hb3⟩
  have HO3 := Lib.hid ho3
  have HB3 := Lib.hid (bnext HB2.out hb3)
  clear ho3 hb3 hcell
  go_wp2
  go_ret
  exact ⟨A3, c3, by simp, own_base HO3.out HB2.out.size, HB3.out⟩
end Go.Proofs.Ytfmfndpeiffehaa
