/-
  spec.served, spec.HeapQueue, spec.HeapQueueRest: what they return. Conditions: memory holds the steps; they are within the reach of slices.
-/
import Derived.Test.YtpjdpcpcfcohiaaSpecT
import Derived.Test.YtpjdpcpcfcohiaaSpecX
import Derived.Test.YtpjdpcpcfcohiaaDeskL
namespace Go.Proofs.Ytpjdpcpcfcohiaa
open Go.RowKit Go.Shelf
open Hp (g swp Ev St nums fstK fstW dropW fndK fndW setW stpW aftW outW qOut qRest InvW srtQ)

theorem stepW_any {B : Nat} {w : World} {wb : Nat} {vi vo : Value} {c : Nat} {t out : List It} (h : WS B w wb vi vo c t out) (q a k z : Int) (hc : c + 1 ≤ 13194139537408) (ht : t.length + 1 ≤ 13194139537408) (hO : out.length + 1 ≤ 13194139537408) :
    Calls Try.prog 42 #[.pointer (some ⟨wb, 0, none⟩), .agg #[.int .i64 q, .int .i64 a, .int .i64 k, .int .i64 z]] w (SteppedW B wb (q, a, k, z) c t out w) := by
  by_cases k1 : q = 1
  · subst k1; exact stepW_push h a k z ht hc
  by_cases k4 : q = 4
  · subst k4; exact stepW_fix h a k z (by omega)
  by_cases k3 : q = 3
  · subst k3
    by_cases hin : a ∈ nums t
    · exact stepW_rem h a k z hin (by omega) hO
    · exact stepW_rem0 h a k z hin (by omega)
  by_cases h2 : q = 2 ∧ 0 < t.length
  · obtain ⟨rfl, hl⟩ := h2; exact stepW_pop h a k z hl (by omega) hO
  exact stepW_none h q a k z k1 k3 k4 (fun e => Nat.eq_zero_of_not_pos (fun hp => h2 ⟨e, hp⟩))
theorem stpW_len (s : St) (c : Nat) (t : List It) : (stpW s (c, t)).1.1 ≤ c + 1 ∧ (stpW s (c, t)).1.2.length ≤ t.length + 1 ∧ (stpW s (c, t)).2.length ≤ 1 := by
  have hd : ∀ n, (dropW n t).length ≤ t.length := fun n => List.length_filter_le _ _
  unfold stpW
  split
  · simp
  · split
    · split
      · simp
      · have := hd (fstW t).2
        simp
        omega
    · split
      · have := hd s.2.1
        simp
        split <;> simp <;> omega
      · split
        · simp [setW]
        · simp
/-- A script under way in the reference: what waits after its first k steps. -/
def WayW (w : World) (wb : Nat) (ss : List St) (k : Nat) (wr : World) : Prop :=
  ∃ vi vo c t o, WS w.heap.size wr wb vi vo c t o ∧ Below w.heap.size w wr ∧ c ≤ k ∧ t.length ≤ k ∧ o.length ≤ k ∧ (c, t) = aftW (0, []) (ss.take k) ∧ o = outW (0, []) (ss.take k)
theorem WayW.start (w : World) (ss : List St) : WayW w w.heap.size ss 0 (w.alloc (WT (.slice none 0 0) 0 (.slice none 0 0))) :=
  ⟨_, _, 0, [], [], ⟨heap_alloc_new _ _, World.ownsRow_nil _ _ _ _, World.ownsRow_nil _ _ _ _, fun k h => by simp [Value.ownBlock] at h, by simp, Nat.le_refl _⟩, (Below.refl _ _).alloc (Nat.le_refl _) _, by simp, by simp, by simp, rfl, rfl⟩
theorem WayW.step {w : World} {wb : Nat} {ss : List St} {k : Nat} {wr : World} (h : WayW w wb ss k wr) (hk : k < ss.length) (hn : ss.length + 1 ≤ 13194139537408) (ob : Obj) :
    Calls Try.prog 42 #[.pointer (some ⟨wb, 0, none⟩), .agg #[.int .i64 (g ss k).1, .int .i64 (g ss k).2.1, .int .i64 (g ss k).2.2.1, .int .i64 (g ss k).2.2.2]] (wr.alloc ob) fun e w' => e = .returned (.tuple #[]) ∧ WayW w wb ss (k + 1) w' := by
  obtain ⟨vi, vo, c, t, o, hd, hb, h1, h2, h3, h4, h5⟩ := h
  have hd1 := hd.new (w' := wr.alloc ob) ((Below.refl _ _).alloc (Nat.le_refl _) ob)
  refine (stepW_any hd1 (g ss k).1 (g ss k).2.1 (g ss k).2.2.1 (g ss k).2.2.2 (by omega) (by omega) (by omega)).mono ?_
  rintro e w' ⟨rfl, vi', vo', hd', hb'⟩
  obtain ⟨l1, l2, l3⟩ := stpW_len ((g ss k).1, (g ss k).2.1, (g ss k).2.2.1, (g ss k).2.2.2) c t
  have e1 : stpW ((g ss k).1, (g ss k).2.1, (g ss k).2.2.1, (g ss k).2.2.2) (c, t) = stpW (g ss k) (aftW (0, []) (ss.take k)) := by rw [h4]
  refine ⟨rfl, vi', vo', _, _, _, hd', (hb.alloc hb.size ob).trans hb', by omega, by omega, by rw [List.length_append]; omega, ?_, ?_⟩
  · rw [Hp.aftW_succ ss (0, []) k hk, e1]
  · rw [Hp.outW_succ ss (0, []) k hk, e1, h5]

/-- What served leaves. -/
def ServedP (w : World) (ss : List St) (e : Ending) (w' : World) : Prop :=
  ∃ wb vi vo c t o, e = .returned (.pointer (some ⟨wb, 0, none⟩)) ∧ WS w.heap.size w' wb vi vo c t o ∧ Below w.heap.size w w' ∧ t.length ≤ ss.length ∧ o.length ≤ ss.length ∧ c ≤ ss.length ∧ (c, t) = aftW (0, []) ss ∧ o = qOut ss

set_option maxHeartbeats 2000000 in
set_option maxRecDepth 100000 in
theorem served_any (w : World) (A : Option Addr) (n c : Nat) (ss : List St) (hl : n = ss.length) (hr : Rd w A (clsT ss)) (hn : ss.length + 1 ≤ 13194139537408) :
    Calls Try.prog 37 #[.slice A n c] w (ServedP w ss) := by
  subst hl
  have HS := Lib.hid (WayW.start w ss)
  unfold WT at HS
  have HR := Lib.hid hr
  clear hr
  go_enter Try.func37, Try.ntmps37
  go_wp2
  go_loopw [10] (fun s10 wr => ∃ (k : Nat), s10 = .int .i64 (k : Int) ∧ k ≤ ss.length ∧ Aside (WayW w w.heap.size ss k wr)) (fun s10 _ => ss.length - (intOf s10).toNat)
  case atStart => exact ⟨0, rfl, by omega, HS.out⟩
  case round =>
    obtain ⟨k, rfl, hk, hw⟩ := hrel
    have hb : Below w.heap.size w wr := by obtain ⟨_, _, _, _, _, _, hb, _⟩ := hw.out; exact hb
    have hsz := hb.size
    by_cases hlt : k < ss.length
    · obtain ⟨b, o, hAs, hbb, h1, h2, h3, h4⟩ := (HR.out.below hb (Nat.le_refl _)).atT k hlt
      subst hAs
      have hc := hw.out.step hlt hn (.cells #[.int .i64 (g ss k).1, .int .i64 (g ss k).2.1, .int .i64 (g ss k).2.2.1, .int .i64 (g ss k).2.2.2] 36)
      obtain ⟨⟨q, a, kk, t⟩, hx⟩ : ∃ s, g ss k = s := ⟨_, rfl⟩
      rw [hx] at h1 h2 h3 h4 hc
      have HC := Lib.hid hc
      clear hx hc hw hb
      go_wp2_with (go_at_call 42; refine HC.out.mono ?_; rintro e w2 ⟨rfl, hW2⟩)
      go_roundw
      case rel => exact ⟨k + 1, by go_num, by omega, hW2⟩
      case measure => simp [intOf]; omega
    · have hkl : k = ss.length := by omega
      subst hkl
      obtain ⟨vi, vo, c, t, o, hd, hb2, h1, h2, h3, h4, h5⟩ := hw.out
      rw [List.take_length] at h4 h5
      have HF := Lib.hid (show ServedP w ss (.returned (.pointer (some ⟨w.heap.size, 0, none⟩))) wr from ⟨_, vi, vo, c, t, o, rfl, hd, hb2, h2, h3, h1, h4, h5⟩)
      clear hd hw hb2 h4 h5
      go_wp2
      go_ret
      exact HF.out

set_option maxHeartbeats 2000000 in
set_option maxRecDepth 100000 in
theorem spec_queue_law (w : World) (A : Option Addr) (n c : Nat) (ss : List St) (hl : n = ss.length) (hr : Rd w A (clsT ss)) (hn : ss.length + 1 ≤ 13194139537408) :
    Calls Try.prog 15 #[.slice A n c] w (ItsP w (qOut ss)) := by
  subst hl
  have HC := Lib.hid (served_any w A ss.length c ss rfl hr hn)
  clear hr
  go_enter Try.func15, Try.ntmps15
  go_wp2_with fail
  refine HC.out.mono ?_
  rintro e w1 ⟨wb, vi, vo, c1, t, o, rfl, hd, hb, h2, h3, h1, h4, h5⟩
  obtain ⟨Ao, co, hvo⟩ := own_slice hd.out
  subst hvo
  obtain ⟨_, _, k2, _⟩ := WT.cells hd.box
  have HF := Lib.hid (show ItsP w (qOut ss) (.returned (.slice Ao o.length co)) w1 from ⟨o, Ao, co, h5, rfl, hd.out, hb⟩)
  clear hd hb h4 h5 HC
  go_wp2
  go_ret
  exact HF.out

theorem WS.cleared {B : Nat} {w : World} {wb : Nat} {vi vo : Value} {c : Nat} {t out : List It} (h : WS B w wb vi vo c t out) : WS B (w.setCell ⟨wb, 2, none⟩ (.slice none 0 0)) wb vi (.slice none 0 0) c t [] ∧ Below B w (w.setCell ⟨wb, 2, none⟩ (.slice none 0 0)) :=
  ⟨⟨WT.set2 h.box _, ownsRow_setCell_other (a := ⟨wb, 2, none⟩) h.its h.idb _, World.ownsRow_nil _ _ _ _, fun k _ => by simp [Value.ownBlock], by simpa [World.setCell] using h.low, h.lowb⟩, (Below.refl _ _).setCell (p := ⟨wb, 2, none⟩) h.lowb _⟩
/-- A waiting queue that is emptied: what is still to be popped. -/
def LeftW (w : World) (wb N : Nat) (R : List It) (j : Nat) (wr : World) : Prop :=
  ∃ vi vo c t r, WS w.heap.size wr wb vi vo c t r ∧ Below w.heap.size w wr ∧ InvW (c, t) ∧ c ≤ N ∧ r.length + j ≤ N ∧ t.length = j ∧ r ++ srtQ t = R
theorem LeftW.step {w : World} {wb N : Nat} {R : List It} {j : Nat} {wr : World} (h : LeftW w wb N R (j + 1) wr) (hn : N + 1 ≤ 13194139537408) :
    Calls Try.prog 42 #[.pointer (some ⟨wb, 0, none⟩), .agg #[.int .i64 2, .int .i64 0, .int .i64 0, .int .i64 0]] wr fun e w' => e = .returned (.tuple #[]) ∧ LeftW w wb N R j w' := by
  obtain ⟨vi, vo, c, t, r, hd, hb, hi, h1, h2, h3, h4⟩ := h
  refine (stepW_pop hd 0 0 0 (by omega) (by omega) (by omega)).mono ?_
  rintro e w' ⟨rfl, vi', vo', hd', hb'⟩
  have e1 : stpW ((2 : Int), (0 : Int), (0 : Int), (0 : Int)) (c, t) = ((c, dropW (fstW t).2 t), [fstW t]) := by
    unfold stpW
    rw [if_neg (by simp), if_pos rfl, if_neg (by simp only; omega)]
    have := Hp.fndW_some hi.nodup (Hp.fstW_least hi.asc (by simp only; omega)).1
    simp only at this ⊢
    rw [this]
  have hi' := hi.step ((2 : Int), (0 : Int), (0 : Int), (0 : Int))
  have hlen := Hp.length_dropW hi.asc (by simp only; omega)
  have hdr := Hp.dropW_least hi.asc (by simp only; omega)
  rw [e1] at hd' hi'
  simp only at hlen hdr
  refine ⟨rfl, vi', vo', _, _, _, hd', hb.trans hb', hi', h1, by rw [List.length_append]; simp; omega, by simp only; omega, ?_⟩
  rw [← h4, hdr, List.append_assoc]
  rfl

set_option maxHeartbeats 2000000 in
set_option maxRecDepth 100000 in
theorem spec_rest_law (w : World) (A : Option Addr) (n c : Nat) (ss : List St) (hl : n = ss.length) (hr : Rd w A (clsT ss)) (hn : ss.length + 1 ≤ 13194139537408) :
    Calls Try.prog 23 #[.slice A n c] w (ItsP w (qRest ss)) := by
  subst hl
  have HC := Lib.hid (served_any w A ss.length c ss rfl hr hn)
  clear hr
  go_enter Try.func23, Try.ntmps23
  go_wp2_with fail
  refine HC.out.mono ?_
  rintro e w1 ⟨wb, vi, vo, c1, t, o, rfl, hd, hb, h2, h3, h1, h4, h5⟩
  obtain ⟨_, _, k2, kf⟩ := WT.cells hd.box
  have f2 := kf 2
  have hltw := lt_of_block hd.box
  obtain ⟨hc, hbc⟩ := hd.cleared
  have HRT := Lib.hid (show qRest ss = srtQ t by unfold Hp.qRest Hp.qHeld; rw [← h4])
  have HLE := Lib.hid (show LeftW w wb ss.length (srtQ t) t.length _ from ⟨_, _, _, _, _, hc, hb.trans hbc, by rw [h4]; exact Hp.qInv ss, h1, by simp; omega, rfl, rfl⟩)
  clear hd hb h4 h5 HC kf hc hbc
  go_wp2_with fail
  go_loopg [9] t.length (fun j _ wi => Aside (LeftW w wb ss.length (srtQ t) j wi))
  case atStart => exact HLE.out
  case round =>
    clear HLE k2 f2
    obtain ⟨vi, vo, c2, t2, r, hd, hb2, hi, h1', h2', h3', h4'⟩ := hrel.out
    obtain ⟨Ai, ci, hvi⟩ := own_slice hd.its
    subst hvi
    obtain ⟨Ao, co, hvo⟩ := own_slice hd.out
    subst hvo
    obtain ⟨d0, _, d2, _⟩ := WT.cells hd.box
    have hlt3 := lt_of_block hd.box
    cases gk with
    | zero =>
      have hq1 : t2.length ≤ 0 := Nat.le_of_eq h3'
      have hq0 : decide (0 < t2.length) = false := decide_eq_false (by omega)
      have ht2 : t2 = [] := List.eq_nil_of_length_eq_zero h3'
      have hr : r = srtQ t := by rw [← h4', ht2]; simp [srtQ]
      have HF := Lib.hid (show ItsP w (qRest ss) (.returned (.slice Ao r.length co)) _ from ⟨r, Ao, co, by rw [HRT.out]; exact hr, rfl, hd.out, hb2⟩)
      clear hd hi h3' h4' ht2 hr hrel hb2
      go_wp2
      go_ret
      exact HF.out
    | succ j =>
      have hq1 : 0 < t2.length := by omega
      have HC := Lib.hid (hrel.out.step hn)
      clear hd hi h3' h4' hrel hb2
      go_wp2_with (go_at_call 42; refine HC.out.mono ?_; rintro e w2 ⟨rfl, hW2⟩)
      go_roundg j
      case measure => omega
      case rel => exact hW2
end Go.Proofs.Ytpjdpcpcfcohiaa
