/-
  impl.HeapRemove: what it returns. Condition: memory holds the list; the index is one of it; the list is within the reach of a slice.
-/
import Derived.Test.YtfmfndpeiffehaaNewits
import Derived.Test.YtfmfndpeiffehaaHeapRem
namespace Go.Proofs.Ytfmfndpeiffehaa
open Go.RowKit Go.Shelf
open Hp (g swp Ev)

set_option maxHeartbeats 1000000 in
set_option maxRecDepth 100000 in
theorem heapRemove_any (w : World) (A : Option Addr) (n c : Nat) (l : List It) (i : Nat) (hl : n = l.length) (hr : Rd w A (cls l)) (hn : l.length * 16 ≤ 211106232598528) (hi : i < l.length) :
    Calls Try.prog 21 #[.slice A n c, .int .i64 (i : Int)] w (NewItsAnd w (Hp.rem ltK l i).dropLast (g l i)) := by
  subst hl
  go_enter Try.func21, Try.ntmps21
  go_wp2_with fail
  have hb0 := (Below.refl w.heap.size w).alloc (Nat.le_refl _) (.cells #[.int .i64 0, .int .i64 0] 35)
  refine (copied_any _ A _ c l rfl (hr.below hb0 (Nat.le_refl _)) (by omega)).mono ?_
  rintro e w1 ⟨A1, c1, rfl, ho1, hb1⟩
  have hs1 := hb1.size
  rw [heap_size_alloc] at hs1
  have kx1 := (hb1.cell (p := ⟨w.heap.size, 0, none⟩) (by simp)).trans (show (w.alloc (.cells #[.int .i64 0, .int .i64 0] 35)).cell? ⟨w.heap.size, 0, none⟩ = some (.int .i64 0) by simp)
  have kx2 := (hb1.cell (p := ⟨w.heap.size, 1, none⟩) (by simp)).trans (show (w.alloc (.cells #[.int .i64 0, .int .i64 0] 35)).cell? ⟨w.heap.size, 1, none⟩ = some (.int .i64 0) by simp)
  have hbl : w1.heap[w.heap.size]? = some (.cells #[.int .i64 0, .int .i64 0] 35 (0, 0)) := by
    rw [hb1.block _ (by simp)]; exact heap_alloc_new _ _
  rw [heap_size_alloc] at ho1
  have hRI := RI.start ho1 hs1 (Nat.le_refl _) (by omega)
  have HR1 := Lib.hid hRI
  have HB1 := Lib.hid (bnext hb0 hb1)
  have HBL := Lib.hid hbl
  clear ho1 hb1 hb0 hr hRI hbl
  go_wp2_with fail
  refine (remove_any (items_HI (w.heap.size + 1) w1 w1.heap.size l.length) (items_HPop (w.heap.size + 1) w1 w1.heap.size l.length) l [] i _ HR1.out hi (Nat.lt_succ_self _)).mono ?_
  have hta := run_assert_item
  obtain ⟨⟨x1, x2⟩, hx⟩ : ∃ x, g l i = x := ⟨_, rfl⟩
  rw [hx]
  have HX := Lib.hid hx
  clear hx
  unfold encI
  rintro e w2 ⟨rfl, hR2⟩
  obtain ⟨v2, hv2, ho2⟩ := hR2.own
  obtain ⟨A2, c2, rfl⟩ := own_slice ho2
  have hcell := cell_of_one hv2
  have hz2 := lt_of_block hv2
  have hb2 : Below (w.heap.size + 1) w1 w2 := hR2.below
  have hbl2 : w2.heap[w.heap.size]? = some (.cells #[.int .i64 0, .int .i64 0] 35 (0, 0)) := by rw [hb2.block _ (by omega)]; exact HBL.out
  have kx1 := (hb2.cell (p := ⟨w.heap.size, 0, none⟩) (by simp)).trans kx1
  have kx2 := (hb2.cell (p := ⟨w.heap.size, 1, none⟩) (by simp)).trans kx2
  have HRD := Lib.hid (Rd.of_own ho2)
  have HB2 := Lib.hid (HB1.out.trans (hb2.mono (by omega)))
  clear hv2 ho2 hR2 hb2
  have kf1 : w2.frozen? ⟨w.heap.size, 0, none⟩ = false := by simp [World.frozen?, hbl2]
  have kf2 : w2.frozen? ⟨w.heap.size, 1, none⟩ = false := by simp [World.frozen?, hbl2]
  clear hbl2
  go_wp2_with fail
  obtain ⟨W, hW⟩ : ∃ W, W = w2.alloc (.cells #[.int .i64 x1, .int .i64 x2] 35) := ⟨_, rfl⟩
  rw [← hW]
  have hzW : w2.heap.size < W.heap.size := by rw [hW]; simp
  have k0 : W.cell? ⟨w1.heap.size, 0, none⟩ = some (.slice A2 (Hp.rem ltK l i).dropLast.length c2) := by rw [hW, World.cell?_alloc_lt _ _ _ hz2]; exact hcell
  have k1 : W.cell? ⟨w2.heap.size, 0, none⟩ = some (.int .i64 x1) := by rw [hW]; simp
  have k2 : W.cell? ⟨w2.heap.size, 1, none⟩ = some (.int .i64 x2) := by rw [hW]; simp
  have hzw : w.heap.size < W.heap.size := by omega
  have hzw2 : w.heap.size < w2.heap.size := by omega
  have r1 : W.cell? ⟨w.heap.size, 0, none⟩ = some (.int .i64 0) := by rw [hW, World.cell?_alloc_lt _ _ _ hzw2]; exact kx1
  have r2 : W.cell? ⟨w.heap.size, 1, none⟩ = some (.int .i64 0) := by rw [hW, World.cell?_alloc_lt _ _ _ hzw2]; exact kx2
  have q1 : W.frozen? ⟨w.heap.size, 0, none⟩ = false := by rw [hW, World.frozen?_alloc_old _ _ _ (by simp; omega)]; exact kf1
  have q2 : W.frozen? ⟨w.heap.size, 1, none⟩ = false := by rw [hW, World.frozen?_alloc_old _ _ _ (by simp; omega)]; exact kf2
  have HBW : Hid (Below w.heap.size w W) := by rw [hW]; exact HB2.out.alloc HB2.out.size _
  have HRW : Hid (Rd W A2 (cls (Hp.rem ltK l i).dropLast)) := by rw [hW]; exact HRD.out.below ((Below.refl _ _).alloc (Nat.le_refl _) _) (Nat.le_refl _)
  have hzh : w1.heap.size < W.heap.size := by omega
  clear hW kx1 kx2 kf1 kf2 hcell hta
  obtain ⟨len, hlen⟩ : ∃ len, len = (Hp.rem ltK l i).dropLast.length := ⟨_, rfl⟩
  rw [← hlen] at k0
  have HLEN := Lib.hid hlen
  clear hlen
  obtain ⟨bh, hbh⟩ : ∃ bh, bh = w1.heap.size := ⟨_, rfl⟩
  obtain ⟨bx, hbx⟩ : ∃ bx, bx = w2.heap.size := ⟨_, rfl⟩
  rw [← hbh] at k0 hzh ⊢
  rw [← hbx] at k1 k2 hzW ⊢
  have hne1 : ¬ bx = w.heap.size := by omega
  have hne2 : ¬ bh = w.heap.size := by omega
  clear hbh hbx
  go_region_held3 (fun w' => w'.cell? ⟨bh, 0, none⟩ = some (.slice A2 len c2) ∧ w'.cell? ⟨bx, 0, none⟩ = some (.int .i64 x1) ∧ w'.cell? ⟨bx, 1, none⟩ = some (.int .i64 x2))
    (first
      | exact ⟨ka0, ka1, ka2⟩
      | exact ⟨k0, k1, k2⟩
      | (refine ⟨?_, ?_, ?_⟩ <;> (rw [World.cell?_setCell_other _ _ _ _ (by simp <;> omega), World.cell?_setCell_other _ _ _ _ (by simp <;> omega)]; assumption))
      | go_keep)
    (first
      | (go_at_call 35
         ((with_reducible refine (copied_any _ A2 _ c2 (Hp.rem ltK l i).dropLast HLEN.out ?_ ?_).mono ?_)
          · exact HRW.out
          · rw [List.length_dropLast, Hp.length_rem]; omega
          rintro e w3 ⟨A3, c3, rfl, ho3, hb3⟩
          have ka0 := (hb3.cell (p := ⟨bh, 0, none⟩) hzh).trans k0
          have ka1 := (hb3.cell (p := ⟨bx, 0, none⟩) hzW).trans k1
          have ka2 := (hb3.cell (p := ⟨bx, 1, none⟩) hzW).trans k2
          have s1 := (hb3.cell (p := ⟨w.heap.size, 0, none⟩) hzw).trans r1
          have s2 := (hb3.cell (p := ⟨w.heap.size, 1, none⟩) hzw).trans r2
          have t1 := (hb3.frozen (p := ⟨w.heap.size, 0, none⟩) hzw).trans q1
          have t2 := (hb3.frozen (p := ⟨w.heap.size, 1, none⟩) hzw).trans q2)))
  have HO3 := Lib.hid ho3
  have HB3 := Lib.hid (bnext HBW.out.drew hb3)
  have hs3 : w.heap.size < w3.heap.size := Nat.lt_of_lt_of_le hzw hb3.size
  clear ho3 hb3 k0 k1 k2 ka0 ka1 ka2
  go_wp2
  refine bodyPost_ret (v := .tuple #[.slice A3 (l.length - 1) c3, .agg #[.int .i64 x1, .int .i64 x2]]) (by simp [results, Try.results21, go_sem, s1, s2]) rfl ?_
  refine ⟨A3, c3, by rw [List.length_dropLast, Hp.length_rem, HX.out], ?_, (HB3.out.setCell (Nat.le_refl _) _).setCell (Nat.le_refl _) _⟩
  exact own_base (ownsRow_setCell_below (ownsRow_setCell_below HO3.out hzw _) hzw _) (Nat.le_of_lt hzw)
end Go.Proofs.Ytfmfndpeiffehaa
