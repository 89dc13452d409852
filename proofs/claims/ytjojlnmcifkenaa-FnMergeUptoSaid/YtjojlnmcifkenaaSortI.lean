/-
  impl.HeapSortInts: what it returns. Condition: memory holds the numbers, within the reach of a slice.
-/
import Derived.Test.YtjojlnmcifkenaaScriptW
namespace Go.Proofs.Ytjojlnmcifkenaa
open Go.RowKit Go.Shelf
open Hp (g swp Ev St plc)

set_option maxHeartbeats 2000000 in
set_option maxRecDepth 100000 in
theorem heapSortInts_any (w : World) (A : Option Addr) (n c : Nat) (x : List Int) (hl : n = x.length) (hr : Rd w A (clsN x)) (hn : x.length + 1 ≤ 26388279066624) :
    Calls Try.prog 26 #[.slice A n c] w (NewInts w (Hp.srt x)) := by
  subst hl
  obtain ⟨A1, c1, w1, hrun1, ho1, hb1⟩ := run_copy_ints w A c x hr (by omega) 22
  have HRUN1 := Lib.hid hrun1
  have hs1 := hb1.size
  have hn1 : N3 w.heap.size (w1.alloc (.cells #[.slice A1 x.length c1] 47)) w1.heap.size (.slice A1 x.length c1) (.slice none 0 0) (.slice none 0 0) x [] [] :=
    ⟨heap_alloc_new _ _, ho1.alloc _, World.ownsRow_nil _ _ _ _, World.ownsRow_nil _ _ _ _, fun k _ => by simp [Value.ownBlock], fun k _ => by simp [Value.ownBlock], fun k h => by simp [Value.ownBlock] at h, by simp; omega, hs1⟩
  have HB1 := Lib.hid (hb1.alloc hs1 (.cells #[.slice A1 x.length c1] 47))
  have HN1 := Lib.hid hn1
  have HRN := Lib.hid (RN.begin hn1 (Nat.le_refl _) (by omega))
  clear hr hrun1 ho1 hb1 hn1
  go_enter Try.func26, Try.ntmps26
  go_wp2_with (at_builtin; refine wpList_append_run rfl _ _ _ rfl _ _ _ _ rfl rfl HRUN1.out ?_)
  refine (init_any (ints_HI w.heap.size _ w1.heap.size _ x.length) x [] _ HRN.out (Nat.le_refl _)).mono ?_
  rintro e w2 ⟨rfl, hR2⟩
  obtain ⟨vh2, hn2, hb2⟩ := HN1.out.moved hR2
  have hil := Hp.length_init ltI x
  have hps : Hp.pops ltI x.length (Hp.init ltI x) = Hp.srt x := by
    have h := Hp.pops_srt (l := Hp.init ltI x) (by simpa using Hp.init_HO Hp.wo_ltZ x)
    rw [hil] at h
    rw [h]
    exact Hp.srt_perm (Hp.perm_init ltI x)
  obtain ⟨L0, hL0⟩ : ∃ L0, L0 = Hp.init ltI x := ⟨_, rfl⟩
  rw [← hL0] at hn2 hil hps
  obtain ⟨R, hRR⟩ : ∃ R, R = Hp.srt x := ⟨_, rfl⟩
  rw [← hRR] at hps
  have HRE := Lib.hid hRR
  have HPS := Lib.hid hps
  have HLL := Lib.hid (show L0.length + 0 = x.length by omega)
  have HN2 := Lib.hid hn2
  have HB2 := Lib.hid (HB1.out.trans hb2)
  have hta := run_assert_int
  obtain ⟨hb, hhb⟩ : ∃ hb, hb = w1.heap.size := ⟨_, rfl⟩
  rw [← hhb] at HN2 ⊢
  clear hR2 hn2 hb2 hil hL0 hhb HN1 HB1 HRN HRUN1 hRR hps
  go_wp2_with fail
  go_loopw [4, 11] (fun s4 s11 wr => ∃ (k : Nat) (vh : Value) (L r : List Int), s11 = .int .i64 (k : Int) ∧ k ≤ x.length ∧ r.length ≤ k ∧ Hid (L.length + k = x.length) ∧ Aside (N3 w.heap.size wr hb vh s4 (.slice none 0 0) L r []) ∧ Below w.heap.size w wr ∧ Hid (r ++ Hp.pops ltI (x.length - k) L = R))
    (fun _ s11 _ => x.length - (intOf s11).toNat)
  case atStart => exact ⟨0, vh2, L0, [], rfl, by omega, by simp, HLL, HN2.out, HB2.out, HPS⟩
  case round =>
    obtain ⟨k, vh, L, r, rfl, hk, hrl, HLK, hn3, hbi, HPR⟩ := hrel
    clear HLL HN2 HB2 HPS
    have HNI := Lib.hid hn3.out
    have HBI := Lib.hid hbi
    clear hn3 hbi
    by_cases hlt : k < x.length
    · have hpos : 0 < L.length := by have := HLK.out; omega
      have hLl : L.length ≤ x.length := by have := HLK.out; omega
      obtain ⟨y, hy⟩ : ∃ y, g L 0 = y := ⟨_, rfl⟩
      have HRN := Lib.hid (RN.begin HNI.out (Nat.le_refl _) (by omega))
      have hc := pop_any (ints_HI w.heap.size _ hb _ L.length) (ints_HPop w.heap.size _ hb _ L.length) L [] _ HRN.out hpos (Nat.lt_succ_self _)
      rw [hy] at hc
      unfold encN at hc
      have HC := Lib.hid hc
      have hps := pops_step L (x.length - (k + 1)) r R (by rw [show x.length - (k + 1) + 1 = x.length - k by omega]; exact HPR.out)
      rw [hy] at hps
      have HPS := Lib.hid hps
      have HLD := Lib.hid (show (Hp.popD ltI L).dropLast.length + (k + 1) = x.length by rw [List.length_dropLast, Hp.length_popD]; have := HLK.out; omega)
      have hnr : r.length + 1 ≤ 26388279066624 := by omega
      clear hc hps hy
      go_wp2_with fail
      refine HC.out.mono ?_
      rintro e w2 ⟨rfl, hR2⟩
      obtain ⟨vh3, hn3, hb3⟩ := HNI.out.moved hR2
      have HN3 := Lib.hid hn3
      have HB3 := Lib.hid (HBI.out.trans hb3)
      have hz4 := heap_alloc_new w2 (.cells #[.int .i64 y] 3)
      have HZ4 := Lib.hid hz4
      have HL4 := Lib.hid (show w.heap.size ≤ (w2.alloc (.cells #[.int .i64 y] 3)).heap.size by have := hn3.low; simp; omega)
      clear hR2 hn3 hb3 hz4 HC
      go_wp2_with (at_builtin; refine wpList_append_int rfl _ _ rfl _ w.heap.size r y w2.heap.size rfl rfl (HN3.out.oa.alloc _) HZ4.out hnr HL4.out ?_)
      intro A5 c5 w5 ho5 hg5 hl5
      obtain ⟨hn5, hb5⟩ := HN3.out.pushed ((Below.refl _ _).alloc (Nat.le_refl _) _) ho5 hg5 (heap_size_alloc _ _) (by simpa using hl5)
      have HN5 := Lib.hid hn5
      have HB5 := Lib.hid (HB3.out.trans hb5)
      clear hn5 hb5 ho5 hg5 hl5
      go_wp2
      go_roundw
      case rel => exact ⟨k + 1, _, (Hp.popD ltI L).dropLast, r ++ [y], by go_num, by omega, by rw [List.length_append]; simp; omega, HLD, HN5.out, HB5.out, HPS⟩
      case measure => simp [intOf]; omega
    · have hr := HPR.out
      rw [show x.length - k = 0 by omega, Hp.pops, List.append_nil] at hr
      have h3 := HNI.out
      obtain ⟨Aa, ca, ha⟩ := own_slice h3.oa
      have HH3 := Lib.hid h3
      have HHR := Lib.hid (hr.trans HRE.out)
      clear hr h3
      go_wp2
      subst ha
      go_ret
      rw [← HHR.out]
      exact ⟨Aa, ca, rfl, HH3.out.oa, HBI.out⟩
end Go.Proofs.Ytjojlnmcifkenaa
