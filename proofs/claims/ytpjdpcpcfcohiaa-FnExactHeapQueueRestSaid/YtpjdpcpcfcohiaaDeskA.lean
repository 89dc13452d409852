/-
  impl's (*desk).step for every step; impl.HeapQueue and impl.HeapQueueRest: what they return. Conditions: memory holds the steps; they are within the reach of slices.
-/
import Derived.Test.YtpjdpcpcfcohiaaDeskR
import Derived.Test.YtpjdpcpcfcohiaaDeskX
import Derived.Test.YtpjdpcpcfcohiaaDeskU
import Derived.Test.YtpjdpcpcfcohiaaSteps
namespace Go.Proofs.Ytpjdpcpcfcohiaa
open Go.RowKit Go.Shelf
open Hp (g swp Ev St ix nums QV ltQ stpD aftD outD)

theorem step_any {B : Nat} {w : World} {db : Nat} {vq va vo : Value} {E : List Nat} {K : List Int} {l out : List It} (h : DS B w db vq va vo E K l out) (q a k t : Int) (hE : E.length + 1 ≤ 13194139537408) (hO : out.length + 1 ≤ 13194139537408) :
    Calls Try.prog 39 #[.pointer (some ⟨db, 0, none⟩), .agg #[.int .i64 q, .int .i64 a, .int .i64 k, .int .i64 t]] w (Stepped B db (q, a, k, t) E.length l out w) := by
  by_cases k1 : q = 1
  · subst k1; exact step_push h a k t hE hO
  by_cases k5 : q = 5
  · subst k5; exact step_init h a k t hE hO
  by_cases h2 : q = 2 ∧ 0 < l.length
  · obtain ⟨rfl, hl⟩ := h2; exact step_pop h a k t hl hE hO
  by_cases h3 : q = 3 ∧ a ∈ nums l
  · obtain ⟨rfl, hl⟩ := h3; exact step_rem h a k t hl hE hO
  by_cases h4 : q = 4 ∧ a ∈ nums l
  · obtain ⟨rfl, hl⟩ := h4; exact step_fix h a k t hl hE hO
  exact step_none h q a k t k1 k5 (fun e => Nat.eq_zero_of_not_pos (fun hp => h2 ⟨e, hp⟩)) (fun e hm => h3 ⟨e, hm⟩) (fun e hm => h4 ⟨e, hm⟩) hE hO
theorem stpD_len (s : St) (c : Nat) (l : List It) : (stpD s (c, l)).1.1 ≤ c + 1 ∧ (stpD s (c, l)).2.length ≤ 1 := by
  unfold stpD
  split
  · simp
  · split
    · simp
    · split
      · simp
      · split
        · simp
        · split <;> simp
theorem desk_new (w : World) : DS w.heap.size (w.alloc (DK (.slice none 0 0) (.slice none 0 0) (.slice none 0 0))) w.heap.size (.slice none 0 0) (.slice none 0 0) (.slice none 0 0) [] [] [] [] :=
  ⟨⟨heap_alloc_new _ _, ⟨0, [], World.ownsRow_nil _ _ _ _⟩, World.ownsRow_nil _ _ _ _, World.ownsRow_nil _ _ _ _, fun k h => by simp [Value.ownBlock] at h, ⟨[], fun _ => 0, fun n hn => by simp at hn⟩, List.nodup_nil, by simp, Nat.le_refl _, fun e h => by cases h⟩, World.ownsRow_nil _ _ _ _, fun n hn => by simp at hn, ⟨List.nodup_nil, (fun p h => by cases h), Nat.le_refl _⟩, rfl⟩

/-- A script under way: the desk after its first k steps. -/
def Way (w : World) (db : Nat) (ss : List St) (k : Nat) (wr : World) : Prop :=
  ∃ vq va vo E K L O, DS w.heap.size wr db vq va vo E K L O ∧ Below w.heap.size w wr ∧ E.length ≤ k ∧ O.length ≤ k ∧ E.length = (aftD (0, []) (ss.take k)).1 ∧ L = (aftD (0, []) (ss.take k)).2 ∧ O = outD (0, []) (ss.take k)
theorem Way.start (w : World) (ss : List St) : Way w w.heap.size ss 0 (w.alloc (DK (.slice none 0 0) (.slice none 0 0) (.slice none 0 0))) :=
  ⟨_, _, _, _, _, _, _, desk_new w, (Below.refl _ _).alloc (Nat.le_refl _) _, by simp, by simp, rfl, rfl, rfl⟩
/-- One round of the loop that makes the steps of a script. -/
theorem Way.step {w : World} {db : Nat} {ss : List St} {k : Nat} {wr : World} (h : Way w db ss k wr) (hk : k < ss.length) (hn : ss.length + 1 ≤ 13194139537408) (o : Obj) :
    Calls Try.prog 39 #[.pointer (some ⟨db, 0, none⟩), .agg #[.int .i64 (g ss k).1, .int .i64 (g ss k).2.1, .int .i64 (g ss k).2.2.1, .int .i64 (g ss k).2.2.2]] (wr.alloc o) fun e w' => e = .returned (.tuple #[]) ∧ Way w db ss (k + 1) w' := by
  obtain ⟨vq, va, vo, E, K, L, O, hd, hb, h1, h2, h3, h4, h5⟩ := h
  have hd1 := hd.new (w' := wr.alloc o) ((Below.refl _ _).alloc (Nat.le_refl _) o)
  refine (step_any hd1 (g ss k).1 (g ss k).2.1 (g ss k).2.2.1 (g ss k).2.2.2 (by omega) (by omega)).mono ?_
  rintro e w' ⟨rfl, vq', va', vo', E', K', hd', hE', hb'⟩
  have e1 : stpD ((g ss k).1, (g ss k).2.1, (g ss k).2.2.1, (g ss k).2.2.2) (E.length, L) = stpD (g ss k) (aftD (0, []) (ss.take k)) := by rw [h3, h4]
  obtain ⟨l1, l2⟩ := stpD_len ((g ss k).1, (g ss k).2.1, (g ss k).2.2.1, (g ss k).2.2.2) E.length L
  rw [e1] at hd' hE'
  refine ⟨rfl, vq', va', vo', E', K', _, _, hd', (hb.alloc hb.size o).trans hb', ?_, ?_, ?_, ?_, ?_⟩
  · rw [hE', ← e1]; exact Nat.le_trans l1 (by omega)
  · rw [List.length_append, ← e1]; have := l2; omega
  · rw [hE', Hp.aftD_succ ss (0, []) k hk]
  · rw [Hp.aftD_succ ss (0, []) k hk]
  · rw [Hp.outD_succ ss (0, []) k hk, h5]

set_option maxHeartbeats 2000000 in
set_option maxRecDepth 100000 in
theorem queue_walk (w : World) (A : Option Addr) (n c : Nat) (ss : List St) (hl : n = ss.length) (hr : Rd w A (clsT ss)) (hn : ss.length + 1 ≤ 13194139537408) :
    Calls Try.prog 17 #[.slice A n c] w (NewIts w (outD (0, []) ss)) := by
  subst hl
  have HS := Lib.hid (Way.start w ss)
  unfold DK at HS
  have HR := Lib.hid hr
  clear hr
  go_enter Try.func17, Try.ntmps17
  go_wp2
  go_loopw [10] (fun s10 wr => ∃ (k : Nat), s10 = .int .i64 (k : Int) ∧ k ≤ ss.length ∧ Aside (Way w w.heap.size ss k wr)) (fun s10 _ => ss.length - (intOf s10).toNat)
  case atStart => exact ⟨0, rfl, by omega, HS.out⟩
  case round =>
    obtain ⟨k, rfl, hk, hw⟩ := hrel
    have hb : Below w.heap.size w wr := by obtain ⟨_, _, _, _, _, _, _, _, hb, _⟩ := hw.out; exact hb
    have hsz := hb.size
    by_cases hlt : k < ss.length
    · obtain ⟨b, o, hAs, hbb, h1, h2, h3, h4⟩ := (HR.out.below hb (Nat.le_refl _)).atT k hlt
      subst hAs
      have hc := hw.out.step hlt hn (.cells #[.int .i64 (g ss k).1, .int .i64 (g ss k).2.1, .int .i64 (g ss k).2.2.1, .int .i64 (g ss k).2.2.2] 36)
      obtain ⟨⟨q, a, kk, t⟩, hx⟩ : ∃ s, g ss k = s := ⟨_, rfl⟩
      rw [hx] at h1 h2 h3 h4 hc
      have HC := Lib.hid hc
      clear hx hc hw hb
      go_wp2_with (go_at_call 39; refine HC.out.mono ?_; rintro e w2 ⟨rfl, hW2⟩)
      go_roundw
      case rel => exact ⟨k + 1, by go_num, by omega, hW2⟩
      case measure => simp [intOf]; omega
    · have hkl : k = ss.length := by omega
      subst hkl
      obtain ⟨vq, va, vo, E, K, L, O, hd, hb2, _, _, _, _, h5⟩ := hw.out
      rw [List.take_length] at h5
      subst h5
      obtain ⟨Ao, co, hvo⟩ := own_slice hd.base.out
      subst hvo
      obtain ⟨_, _, d2, _⟩ := DK.cells hd.base.box
      have hlt2 := lt_of_block hd.base.box
      have HO := Lib.hid hd.base.out
      clear hd hw
      go_wp2
      go_ret
      exact ⟨Ao, co, rfl, HO.out, hb2⟩

theorem pops_stepQ (l : List It) (k : Nat) (r R : List It) (h : r ++ Hp.pops ltQ (k + 1) l = R) : (r ++ [g l 0]) ++ Hp.pops ltQ k (Hp.popD ltQ l).dropLast = R := by
  rw [← h]; simp [Hp.pops]
theorem DS.cleared {B : Nat} {w : World} {db : Nat} {vq va vo : Value} {E : List Nat} {K : List Int} {l out : List It} (h : DS B w db vq va vo E K l out) : DS B (w.setCell ⟨db, 2, none⟩ (.slice none 0 0)) db vq va (.slice none 0 0) E K l [] ∧ Below B w (w.setCell ⟨db, 2, none⟩ (.slice none 0 0)) := by
  have hf : Frm (fun i => i = db) w (w.setCell ⟨db, 2, none⟩ (.slice none 0 0)) := Frm.setCell (X := fun i => i = db) (p := ⟨db, 2, none⟩) (Frm.refl _ w) rfl _
  have he : Ents E K (ix l) (w.setCell ⟨db, 2, none⟩ (.slice none 0 0)) := h.ent.frm hf (fun n hn e => h.base.dbe (by rw [← e]; exact Hp.mem_g hn))
  have hq := own_frm h.q hf (fun k hk e => h.base.qdb (by rw [hk, e]))
  exact ⟨⟨⟨DK.set2 h.base.box _, ⟨_, _, hq⟩, own_frm h.base.all hf (fun k hk e => h.base.adb (by rw [hk, e])), World.ownsRow_nil _ _ _ _, h.base.apart, ⟨_, _, he⟩, h.base.inj, Nat.le_trans h.base.low hf.size, h.base.lowb, h.base.lowe⟩, hq, he, h.ok, h.kl⟩, hf.below h.base.low (fun i e => by rw [e]; exact h.base.lowb)⟩
/-- A queue that is emptied: what is still to be popped. -/
def Left (w : World) (db : Nat) (N : Nat) (R : List It) (j : Nat) (wr : World) : Prop :=
  ∃ vq va vo E K L r, DS w.heap.size wr db vq va vo E K L r ∧ Below w.heap.size w wr ∧ E.length ≤ N ∧ r.length + j ≤ N ∧ L.length = j ∧ r ++ Hp.pops ltQ j L = R
theorem Left.step {w : World} {db N : Nat} {R : List It} {j : Nat} {wr : World} (h : Left w db N R (j + 1) wr) (hn : N + 1 ≤ 13194139537408) :
    Calls Try.prog 39 #[.pointer (some ⟨db, 0, none⟩), .agg #[.int .i64 2, .int .i64 0, .int .i64 0, .int .i64 0]] wr fun e w' => e = .returned (.tuple #[]) ∧ Left w db N R j w' := by
  obtain ⟨vq, va, vo, E, K, L, r, hd, hb, h1, h2, h3, h4⟩ := h
  refine (step_pop hd 0 0 0 (by omega) (by omega) (by omega)).mono ?_
  rintro e w' ⟨rfl, vq', va', vo', E', K', hd', hE', hb'⟩
  have e1 : stpD ((2 : Int), (0 : Int), (0 : Int), (0 : Int)) (E.length, L) = ((E.length, (Hp.popD ltQ L).dropLast), [g L 0]) := by
    unfold stpD
    rw [if_neg (by simp), if_pos ⟨rfl, by simp only; omega⟩]
  rw [e1] at hd' hE'
  refine ⟨rfl, vq', va', vo', E', K', _, _, hd', hb.trans hb', by simp only at hE'; omega, ?_, ?_, pops_stepQ L j r R h4⟩
  · rw [List.length_append]; simp; omega
  · rw [List.length_dropLast, Hp.length_popD]; omega

set_option maxHeartbeats 2000000 in
set_option maxRecDepth 100000 in
theorem rest_walk (w : World) (A : Option Addr) (n c : Nat) (ss : List St) (hl : n = ss.length) (hr : Rd w A (clsT ss)) (hn : ss.length + 1 ≤ 13194139537408) :
    Calls Try.prog 24 #[.slice A n c] w (NewIts w (Hp.pops ltQ (aftD (0, []) ss).2.length (aftD (0, []) ss).2)) := by
  subst hl
  have HS := Lib.hid (Way.start w ss)
  unfold DK at HS
  have HR := Lib.hid hr
  clear hr
  go_enter Try.func24, Try.ntmps24
  go_wp2
  go_loopw [10] (fun s10 wr => ∃ (k : Nat), s10 = .int .i64 (k : Int) ∧ k ≤ ss.length ∧ Aside (Way w w.heap.size ss k wr)) (fun s10 _ => ss.length - (intOf s10).toNat)
  case atStart => exact ⟨0, rfl, by omega, HS.out⟩
  case round =>
    obtain ⟨k, rfl, hk, hw⟩ := hrel
    have hb : Below w.heap.size w wr := by obtain ⟨_, _, _, _, _, _, _, _, hb, _⟩ := hw.out; exact hb
    have hsz := hb.size
    by_cases hlt : k < ss.length
    · obtain ⟨b, o, hAs, hbb, h1, h2, h3, h4⟩ := (HR.out.below hb (Nat.le_refl _)).atT k hlt
      subst hAs
      have hc := hw.out.step hlt hn (.cells #[.int .i64 (g ss k).1, .int .i64 (g ss k).2.1, .int .i64 (g ss k).2.2.1, .int .i64 (g ss k).2.2.2] 36)
      obtain ⟨⟨q, a, kk, t⟩, hx⟩ : ∃ s, g ss k = s := ⟨_, rfl⟩
      rw [hx] at h1 h2 h3 h4 hc
      have HC := Lib.hid hc
      clear hx hc hw hb
      go_wp2_with (go_at_call 39; refine HC.out.mono ?_; rintro e w2 ⟨rfl, hW2⟩)
      go_roundw
      case rel => exact ⟨k + 1, by go_num, by omega, hW2⟩
      case measure => simp [intOf]; omega
    · have hkl : k = ss.length := by omega
      subst hkl
      obtain ⟨vq, va, vo, E, K, L, O, hd, hb2, hE, _, _, h4, _⟩ := hw.out
      rw [List.take_length] at h4
      obtain ⟨_, _, d2, df⟩ := DK.cells hd.base.box
      have f2 := df 2
      have hlt2 := lt_of_block hd.base.box
      obtain ⟨hd3, hb3⟩ := hd.cleared
      have HL4 := Lib.hid h4
      have hLE := hd.ok.few
      have HLE := Lib.hid (show Left w w.heap.size ss.length (Hp.pops ltQ L.length L) L.length _ from ⟨_, _, _, _, _, _, _, hd3, hb2.trans hb3, hE, by simp; omega, rfl, by simp⟩)
      clear hd hw hb2 hd3 hb3 h4 df hb hsz
      go_wp2_with fail
      go_loopg [21] L.length (fun j _ wi => Aside (Left w w.heap.size ss.length (Hp.pops ltQ L.length L) j wi))
      case atStart => exact HLE.out
      case round =>
        clear HLE d2 f2
        obtain ⟨vq, va, vo, E2, K2, L2, r, hd, hb2, h1, h2, h3, h4⟩ := hrel.out
        obtain ⟨Aq, cq, hvq⟩ := own_slice hd.q
        subst hvq
        obtain ⟨Ao, co, hvo⟩ := own_slice hd.base.out
        subst hvo
        obtain ⟨d0, _, d2, _⟩ := DK.cells hd.base.box
        have hlt3 := lt_of_block hd.base.box
        cases gk with
        | zero =>
          have hq1 : L2.length ≤ 0 := Nat.le_of_eq h3
          have hq0 : decide (0 < L2.length) = false := decide_eq_false (by omega)
          have hr : r = Hp.pops ltQ L.length L := by rw [← h4]; simp [Hp.pops]
          have HRR := Lib.hid hr
          have HOO := Lib.hid hd.base.out
          have HB2 := Lib.hid hb2
          clear hd h3 h4 hr hrel hb2
          go_wp2
          go_ret
          have ho := HOO.out
          have hre := HRR.out
          rw [HL4.out] at hre
          subst hre
          exact ⟨Ao, co, rfl, ho, HB2.out⟩
        | succ j =>
          have hq1 : 0 < L2.length := by omega
          have HC := Lib.hid (hrel.out.step hn)
          clear hd h3 h4 hrel hb2
          go_wp2_with (go_at_call 39; refine HC.out.mono ?_; rintro e w2 ⟨rfl, hW2⟩)
          go_roundg j
          case measure => omega
          case rel => exact hW2
end Go.Proofs.Ytpjdpcpcfcohiaa
