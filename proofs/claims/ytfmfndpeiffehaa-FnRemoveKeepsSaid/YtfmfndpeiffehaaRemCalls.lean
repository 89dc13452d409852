/-
  impl.HeapRemoveCalls: the calls that it returns. Condition: memory holds the list; the index is one of it; the list is within the reach of a slice.
-/
import Derived.Test.YtfmfndpeiffehaaTrace
import Derived.Test.YtfmfndpeiffehaaWatchedPop
import Derived.Test.YtfmfndpeiffehaaHeapRem
namespace Go.Proofs.Ytfmfndpeiffehaa
open Go.RowKit Go.Shelf
open Hp (g swp Ev)

/-- The watched heap as the impl functions make it: the box of its variable behind a copy of the list. -/
theorem RW.start {w : World} {B : Nat} {A : Option Addr} {c N : Nat} {l : List It} (ho : w.ownsRow B 35 2 (.slice A l.length c) l.length (cls l)) (hB : B ≤ w.heap.size) (hl : l.length ≤ N) (hN : N < 4611686018427387904) :
    RW B w w.heap.size N l [] (w.alloc (.cells #[.slice A l.length c, .slice none 0 0] 54)) :=
  ⟨⟨.slice A l.length c, .slice none 0 0, heap_alloc_new _ _, ho.alloc _, World.ownsRow_nil _ _ _ _, hB⟩, (Below.refl _ _).alloc hB _, hl, hN⟩

/-- The calls of Remove. -/
def remTr (l : List It) (i : Nat) : List Ev := Hp.remCalls ltK l i ++ [((4 : Int), (l.length : Int), (g l i).1, (g l i).2)]

theorem remTr_length (l : List It) (i : Nat) (hi : i < l.length) (hn : l.length < 4611686018427387904) : (remTr l i).length ≤ 258 := by
  have := Hp.rem_length ltK l i hi hn
  unfold remTr
  rw [List.length_append]
  simp
  omega

set_option maxHeartbeats 1000000 in
set_option maxRecDepth 100000 in
theorem heapRemoveCalls_any (w : World) (A : Option Addr) (n c : Nat) (l : List It) (i : Nat) (hl : n = l.length) (hr : Rd w A (cls l)) (hn : l.length * 16 ≤ 140737488355328) (hi : i < l.length) :
    Calls Try.prog 13 #[.slice A n c, .int .i64 (i : Int)] w (NewCas w (remTr l i)) := by
  subst hl
  go_enter Try.func13, Try.ntmps13
  go_wp2_with fail
  refine (copied_any _ A _ c l rfl hr (by omega)).mono ?_
  rintro e w1 ⟨A1, c1, rfl, ho1, hb1⟩
  have HR1 := Lib.hid (RW.start ho1 hb1.size (Nat.le_refl _) (show l.length < 4611686018427387904 by omega))
  have HB1 := Lib.hid hb1
  clear ho1 hb1 hr
  have hfl := Hp.rem_length ltK l i hi (by omega)
  have HFL := Lib.hid hfl
  clear hfl
  go_wp2_with fail
  refine (remove_any (watched_HI w.heap.size w1 w1.heap.size l.length (M := 512) (by decide)) (watched_HPop w.heap.size w1 w1.heap.size l.length (M := 512) (by decide)) l [] i _ HR1.out hi (by have := HFL.out; simp; omega)).mono ?_
  rw [List.nil_append]
  rintro e w2 ⟨rfl, hR2⟩
  have hR2' : RW w.heap.size w1 w1.heap.size l.length (Hp.rem ltK l i).dropLast (remTr l i) w2 := hR2
  obtain ⟨v2, u2, hw2⟩ := hR2'.own
  obtain ⟨A2, c2, rfl⟩ := own_slice hw2.cas
  have hcell : w2.cell? ⟨w1.heap.size, 1, none⟩ = some (.slice A2 (remTr l i).length c2) := by simp [World.cell?, hw2.blk]
  have HC2 := Lib.hid hw2.cas
  have HB2 := Lib.hid hR2'.below
  clear hw2 hR2 hR2'
  obtain ⟨m, hm⟩ : ∃ m, m = (remTr l i).length := ⟨_, rfl⟩
  rw [← hm] at hcell
  have HM := Lib.hid hm
  clear hm
  go_wp2
  go_ret
  exact ⟨A2, c2, by rw [← HM.out]; rfl, HC2.out, HB1.out.trans HB2.out⟩
end Go.Proofs.Ytfmfndpeiffehaa
