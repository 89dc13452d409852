/-
  impl's (*desk).step, walked: each kind of step. Conditions: memory holds the desk; its lists stay within what append can bear.
-/
import Derived.Test.YtpjdpcpcfcohiaaDesk
import Derived.Test.YtpjdpcpcfcohiaaPlainZ
import Derived.Deep.DeepCutAuto
import Derived.IntWalk
namespace Go.Proofs.Ytpjdpcpcfcohiaa
open Go.RowKit Go.Shelf
open Hp (g swp Ev St ix nums QV ltQ stpD)

/-- What a step leaves. -/
def Stepped (B db : Nat) (s : St) (c : Nat) (l out : List It) (w : World) (e : Ending) (w' : World) : Prop :=
  e = .returned (.tuple #[]) ∧ ∃ vq va vo E K, DS B w' db vq va vo E K (stpD s (c, l)).1.2 (out ++ (stpD s (c, l)).2) ∧ E.length = (stpD s (c, l)).1.1 ∧ Below B w w'
theorem Stepped.of {B db : Nat} {s : St} {c : Nat} {l out : List It} {w w' : World} {vq va vo : Value} {E : List Nat} {K : List Int} {c' : Nat} {l' o' : List It} (hs : stpD s (c, l) = ((c', l'), o')) (h : DS B w' db vq va vo E K l' (out ++ o')) (hc : E.length = c') (hb : Below B w w') : Stepped B db s c l out w (.returned (.tuple #[])) w' :=
  ⟨rfl, vq, va, vo, E, K, by rw [hs]; exact h, by rw [hs]; exact hc, hb⟩

set_option maxHeartbeats 4000000 in
set_option maxRecDepth 100000 in
theorem step_init {B : Nat} {w : World} {db : Nat} {vq va vo : Value} {E : List Nat} {K : List Int} {l out : List It} (h : DS B w db vq va vo E K l out) (a k t : Int) (hE : E.length + 1 ≤ 13194139537408) (_hO : out.length + 1 ≤ 13194139537408) :
    Calls Try.prog 39 #[.pointer (some ⟨db, 0, none⟩), .agg #[.int .i64 5, .int .i64 a, .int .i64 k, .int .i64 t]] w (Stepped B db (5, a, k, t) E.length l out w) := by
  obtain ⟨b, hb⟩ : ∃ b, b = decide (a ∈ nums l) := ⟨_, rfl⟩
  obtain ⟨Aq, cq, hvq⟩ := own_slice h.q
  subst hvq
  obtain ⟨Aa, ca, hva⟩ := own_slice h.base.all
  subst hva
  obtain ⟨d0, d1, _, _⟩ := DK.cells h.base.box
  have hltd := lt_of_block h.base.box
  have hlE := h.ok.few
  have H := Lib.hid h
  have HBB := Lib.hid hb
  clear h hb
  go_enter Try.func39, Try.ntmps39
  go_upto_region 1 with (fail)
  go_cut [4] (fun s4 wx => s4 = .bool b ∧ Aside (∃ z, wx = (w.alloc (.cells #[.int .i64 5, .int .i64 a, .int .i64 k, .int .i64 t] 36)).drewN z))
  case first =>
    by_cases h0 : 0 ≤ a
    · obtain ⟨m, rfl⟩ : ∃ m : Nat, a = (m : Int) := ⟨a.toNat, by omega⟩
      by_cases hlt : m < E.length
      · obtain ⟨ga, ca', hva, hga, c1, hx⟩ := H.out.entry hlt
        obtain ⟨rfl, rfl⟩ : Aa = some ⟨ga, 0, none⟩ ∧ ca = ca' := by
          injection hva with e1 _ e3
          exact ⟨e1, e3⟩
        obtain ⟨em, hem⟩ : ∃ em, em = g E m := ⟨_, rfl⟩
        rw [← hem] at c1 hx
        obtain ⟨_, _, x2, _⟩ := EC.cells hx
        have hlx := lt_of_block hx
        clear hx hva hem
        by_cases hm : (m : Int) ∈ nums l
        · obtain ⟨i, hi, e1, e2⟩ := Hp.ix_mem hm
          rw [e1] at x2
          obtain rfl : b = true := by rw [HBB.out]; exact decide_eq_true hm
          clear e1 e2 hm
          go_quiet (fail)
          go_wp2_with fail
          go_meet
          exact ⟨rfl, _, rfl⟩
        · rw [Hp.ix_none hm] at x2
          obtain rfl : b = false := by rw [HBB.out]; exact decide_eq_false hm
          clear hm
          go_quiet (fail)
          go_wp2_with fail
          go_meet
          exact ⟨rfl, _, rfl⟩
      · obtain rfl : b = false := by
          rw [HBB.out]
          refine decide_eq_false (fun hm => hlt ?_)
          obtain ⟨p, hp, e⟩ := List.mem_map.1 hm
          have := (H.out.ok.mem p hp).2.1
          omega
        have hd : decide (m < E.length) = false := decide_eq_false hlt
        go_quiet (fail)
        go_wp2_with fail
        go_meet
        exact ⟨rfl, _, rfl⟩
    · obtain rfl : b = false := by
        rw [HBB.out]
        refine decide_eq_false (fun hm => h0 ?_)
        obtain ⟨p, hp, e⟩ := List.mem_map.1 hm
        have := (H.out.ok.mem p hp).1
        omega
      have hd : decide (0 ≤ a) = false := decide_eq_false h0
      go_quiet (fail)
      go_wp2_with fail
      go_meet
      exact ⟨rfl, _, rfl⟩
  case rest =>
    obtain ⟨rfl, hz⟩ := hcut
    obtain ⟨z, hz⟩ := hz.out
    have hW : Below w.heap.size w wc := by rw [hz]; exact below_drewN ((Below.refl _ _).alloc (Nat.le_refl _) _) z
    have s0 : wc.cell? ⟨w.heap.size, 0, none⟩ = some (.int .i64 5) := by rw [hz]; simp [World.cell?_alloc_new]
    have s1 : wc.cell? ⟨w.heap.size, 1, none⟩ = some (.int .i64 a) := by rw [hz]; simp [World.cell?_alloc_new]
    have s2 : wc.cell? ⟨w.heap.size, 2, none⟩ = some (.int .i64 k) := by rw [hz]; simp [World.cell?_alloc_new]
    have hsz : w.heap.size < wc.heap.size := by rw [hz]; simp
    have hwt : ∃ sc, wc.heap[w.heap.size]? = some (.cells sc 36 (0, 0)) := ⟨_, by rw [hz]; exact heap_alloc_new _ _⟩
    have HD := Lib.hid (H.out.new hW)
    have HW := Lib.hid (hW.mono H.out.base.low)
    have hdc : db < wc.heap.size := by omega
    clear hz hW d0 d1
    obtain ⟨d0, d1, _, _⟩ := DK.cells HD.out.base.box
    obtain ⟨sb, hsb⟩ : ∃ sb, sb = w.heap.size := ⟨_, rfl⟩
    rw [← hsb] at s0 s1 s2 hsz hwt ⊢
    clear hltd H hsb
    have hst : stpD (5, a, k, t) (E.length, l) = ((E.length, Hp.init ltQ l), []) := by
      unfold stpD
      rw [if_neg (by simp), if_neg (by simp), if_neg (by simp), if_neg (by simp), if_pos rfl]
    have HST := Lib.hid hst
    have HRQ := Lib.hid (HD.out.rq (by omega))
    clear hst
    go_wp2_with fail
    refine (init_any queue_HI l [] _ HRQ.out (Nat.le_refl _)).mono ?_
    rintro e w2 ⟨rfl, hR2⟩
    obtain ⟨vq2, hd2, hb2⟩ := HD.out.moved hR2
    have HD2 := Lib.hid hd2
    have HB2 := Lib.hid (HW.out.trans hb2)
    clear hR2 hd2 hb2 s0 s1 s2 d0 d1
    go_wp2
    go_end0
    exact Stepped.of HST.out (by rw [List.append_nil]; exact HD2.out) rfl HB2.out

set_option maxHeartbeats 4000000 in
set_option maxRecDepth 100000 in
theorem step_none {B : Nat} {w : World} {db : Nat} {vq va vo : Value} {E : List Nat} {K : List Int} {l out : List It} (h : DS B w db vq va vo E K l out) (q a k t : Int) (hq1 : q ≠ 1) (hq5 : q ≠ 5) (h2 : q = 2 → l.length = 0) (h3 : q = 3 → a ∉ nums l) (h4 : q = 4 → a ∉ nums l) (_hE : E.length + 1 ≤ 13194139537408) (_hO : out.length + 1 ≤ 13194139537408) :
    Calls Try.prog 39 #[.pointer (some ⟨db, 0, none⟩), .agg #[.int .i64 q, .int .i64 a, .int .i64 k, .int .i64 t]] w (Stepped B db (q, a, k, t) E.length l out w) := by
  obtain ⟨b, hb⟩ : ∃ b, b = decide (a ∈ nums l) := ⟨_, rfl⟩
  obtain ⟨Aq, cq, hvq⟩ := own_slice h.q
  subst hvq
  obtain ⟨Aa, ca, hva⟩ := own_slice h.base.all
  subst hva
  obtain ⟨d0, d1, _, _⟩ := DK.cells h.base.box
  have hltd := lt_of_block h.base.box
  have hlE := h.ok.few
  have H := Lib.hid h
  have HBB := Lib.hid hb
  clear h hb
  go_enter Try.func39, Try.ntmps39
  go_upto_region 1 with (fail)
  go_cut [4] (fun s4 wx => s4 = .bool b ∧ Aside (∃ z, wx = (w.alloc (.cells #[.int .i64 q, .int .i64 a, .int .i64 k, .int .i64 t] 36)).drewN z))
  case first =>
    by_cases h0 : 0 ≤ a
    · obtain ⟨m, rfl⟩ : ∃ m : Nat, a = (m : Int) := ⟨a.toNat, by omega⟩
      by_cases hlt : m < E.length
      · obtain ⟨ga, ca', hva, hga, c1, hx⟩ := H.out.entry hlt
        obtain ⟨rfl, rfl⟩ : Aa = some ⟨ga, 0, none⟩ ∧ ca = ca' := by
          injection hva with e1 _ e3
          exact ⟨e1, e3⟩
        obtain ⟨em, hem⟩ : ∃ em, em = g E m := ⟨_, rfl⟩
        rw [← hem] at c1 hx
        obtain ⟨_, _, x2, _⟩ := EC.cells hx
        have hlx := lt_of_block hx
        clear hx hva hem
        by_cases hm : (m : Int) ∈ nums l
        · obtain ⟨i, hi, e1, e2⟩ := Hp.ix_mem hm
          rw [e1] at x2
          obtain rfl : b = true := by rw [HBB.out]; exact decide_eq_true hm
          clear e1 e2 hm
          go_quiet (fail)
          go_wp2_with fail
          go_meet
          exact ⟨rfl, _, rfl⟩
        · rw [Hp.ix_none hm] at x2
          obtain rfl : b = false := by rw [HBB.out]; exact decide_eq_false hm
          clear hm
          go_quiet (fail)
          go_wp2_with fail
          go_meet
          exact ⟨rfl, _, rfl⟩
      · obtain rfl : b = false := by
          rw [HBB.out]
          refine decide_eq_false (fun hm => hlt ?_)
          obtain ⟨p, hp, e⟩ := List.mem_map.1 hm
          have := (H.out.ok.mem p hp).2.1
          omega
        have hd : decide (m < E.length) = false := decide_eq_false hlt
        go_quiet (fail)
        go_wp2_with fail
        go_meet
        exact ⟨rfl, _, rfl⟩
    · obtain rfl : b = false := by
        rw [HBB.out]
        refine decide_eq_false (fun hm => h0 ?_)
        obtain ⟨p, hp, e⟩ := List.mem_map.1 hm
        have := (H.out.ok.mem p hp).1
        omega
      have hd : decide (0 ≤ a) = false := decide_eq_false h0
      go_quiet (fail)
      go_wp2_with fail
      go_meet
      exact ⟨rfl, _, rfl⟩
  case rest =>
    obtain ⟨rfl, hz⟩ := hcut
    obtain ⟨z, hz⟩ := hz.out
    have hW : Below w.heap.size w wc := by rw [hz]; exact below_drewN ((Below.refl _ _).alloc (Nat.le_refl _) _) z
    have s0 : wc.cell? ⟨w.heap.size, 0, none⟩ = some (.int .i64 q) := by rw [hz]; simp [World.cell?_alloc_new]
    have s1 : wc.cell? ⟨w.heap.size, 1, none⟩ = some (.int .i64 a) := by rw [hz]; simp [World.cell?_alloc_new]
    have s2 : wc.cell? ⟨w.heap.size, 2, none⟩ = some (.int .i64 k) := by rw [hz]; simp [World.cell?_alloc_new]
    have hsz : w.heap.size < wc.heap.size := by rw [hz]; simp
    have hwt : ∃ sc, wc.heap[w.heap.size]? = some (.cells sc 36 (0, 0)) := ⟨_, by rw [hz]; exact heap_alloc_new _ _⟩
    have HD := Lib.hid (H.out.new hW)
    have HW := Lib.hid (hW.mono H.out.base.low)
    have hdc : db < wc.heap.size := by omega
    clear hz hW d0 d1
    obtain ⟨d0, d1, _, _⟩ := DK.cells HD.out.base.box
    obtain ⟨sb, hsb⟩ : ∃ sb, sb = w.heap.size := ⟨_, rfl⟩
    rw [← hsb] at s0 s1 s2 hsz hwt ⊢
    clear hltd H hsb
    have hbm : b = true ↔ a ∈ nums l := by rw [HBB.out]; exact decide_eq_true_iff
    have hst : stpD (q, a, k, t) (E.length, l) = ((E.length, l), []) := by
      unfold stpD
      rw [if_neg hq1, if_neg (fun e => by have := h2 e.1; have := e.2; simp only at this; omega), if_neg (fun e => h3 e.1 e.2), if_neg (fun e => h4 e.1 e.2), if_neg hq5]
    have HST := Lib.hid hst
    have n1 : (q == 1) = false := by simpa using hq1
    have n5 : (q == 5) = false := by simpa using hq5
    have HFIN := Lib.hid (show Stepped B db (q, a, k, t) E.length l out w (.returned (.tuple #[])) wc from Stepped.of HST.out (by rw [List.append_nil]; exact HD.out) rfl HW.out)
    have hb3 : q = 3 → b = false := fun e => by cases hbb : b with | false => rfl | true => exact absurd (hbm.1 hbb) (h3 e)
    have hb4 : q = 4 → b = false := fun e => by cases hbb : b with | false => rfl | true => exact absurd (hbm.1 hbb) (h4 e)
    clear hst hbm h3 h4
    by_cases k2 : q = 2
    · subst k2
      have hl0 : l.length ≤ 0 := Nat.le_of_eq (h2 rfl)
      have hl1 : decide (0 < l.length) = false := decide_eq_false (by omega)
      clear h2 hb3 hb4 hq1 hq5
      go_wp2
      go_end0
      exact HFIN.out
    have n2 : (q == 2) = false := by simpa using k2
    by_cases k3 : q = 3
    · subst k3
      obtain rfl := hb3 rfl
      clear h2 hb3 hb4 hq1 hq5 k2
      go_wp2
      go_end0
      exact HFIN.out
    have n3 : (q == 3) = false := by simpa using k3
    by_cases k4 : q = 4
    · subst k4
      obtain rfl := hb4 rfl
      clear h2 hb3 hb4 hq1 hq5 k2 k3
      go_wp2
      go_end0
      exact HFIN.out
    have n4 : (q == 4) = false := by simpa using k4
    clear h2 hb3 hb4 hq1 hq5 k2 k3 k4
    go_wp2
    go_end0
    exact HFIN.out

set_option maxHeartbeats 4000000 in
set_option maxRecDepth 100000 in
theorem step_pop {B : Nat} {w : World} {db : Nat} {vq va vo : Value} {E : List Nat} {K : List Int} {l out : List It} (h : DS B w db vq va vo E K l out) (a k t : Int) (hl : 0 < l.length) (hE : E.length + 1 ≤ 13194139537408) (hO : out.length + 1 ≤ 13194139537408) :
    Calls Try.prog 39 #[.pointer (some ⟨db, 0, none⟩), .agg #[.int .i64 2, .int .i64 a, .int .i64 k, .int .i64 t]] w (Stepped B db (2, a, k, t) E.length l out w) := by
  obtain ⟨b, hb⟩ : ∃ b, b = decide (a ∈ nums l) := ⟨_, rfl⟩
  obtain ⟨Aq, cq, hvq⟩ := own_slice h.q
  subst hvq
  obtain ⟨Aa, ca, hva⟩ := own_slice h.base.all
  subst hva
  obtain ⟨d0, d1, _, _⟩ := DK.cells h.base.box
  have hltd := lt_of_block h.base.box
  have hlE := h.ok.few
  have H := Lib.hid h
  have HBB := Lib.hid hb
  clear h hb
  go_enter Try.func39, Try.ntmps39
  go_upto_region 1 with (fail)
  go_cut [4] (fun s4 wx => s4 = .bool b ∧ Aside (∃ z, wx = (w.alloc (.cells #[.int .i64 2, .int .i64 a, .int .i64 k, .int .i64 t] 36)).drewN z))
  case first =>
    by_cases h0 : 0 ≤ a
    · obtain ⟨m, rfl⟩ : ∃ m : Nat, a = (m : Int) := ⟨a.toNat, by omega⟩
      by_cases hlt : m < E.length
      · obtain ⟨ga, ca', hva, hga, c1, hx⟩ := H.out.entry hlt
        obtain ⟨rfl, rfl⟩ : Aa = some ⟨ga, 0, none⟩ ∧ ca = ca' := by
          injection hva with e1 _ e3
          exact ⟨e1, e3⟩
        obtain ⟨em, hem⟩ : ∃ em, em = g E m := ⟨_, rfl⟩
        rw [← hem] at c1 hx
        obtain ⟨_, _, x2, _⟩ := EC.cells hx
        have hlx := lt_of_block hx
        clear hx hva hem
        by_cases hm : (m : Int) ∈ nums l
        · obtain ⟨i, hi, e1, e2⟩ := Hp.ix_mem hm
          rw [e1] at x2
          obtain rfl : b = true := by rw [HBB.out]; exact decide_eq_true hm
          clear e1 e2 hm
          go_quiet (fail)
          go_wp2_with fail
          go_meet
          exact ⟨rfl, _, rfl⟩
        · rw [Hp.ix_none hm] at x2
          obtain rfl : b = false := by rw [HBB.out]; exact decide_eq_false hm
          clear hm
          go_quiet (fail)
          go_wp2_with fail
          go_meet
          exact ⟨rfl, _, rfl⟩
      · obtain rfl : b = false := by
          rw [HBB.out]
          refine decide_eq_false (fun hm => hlt ?_)
          obtain ⟨p, hp, e⟩ := List.mem_map.1 hm
          have := (H.out.ok.mem p hp).2.1
          omega
        have hd : decide (m < E.length) = false := decide_eq_false hlt
        go_quiet (fail)
        go_wp2_with fail
        go_meet
        exact ⟨rfl, _, rfl⟩
    · obtain rfl : b = false := by
        rw [HBB.out]
        refine decide_eq_false (fun hm => h0 ?_)
        obtain ⟨p, hp, e⟩ := List.mem_map.1 hm
        have := (H.out.ok.mem p hp).1
        omega
      have hd : decide (0 ≤ a) = false := decide_eq_false h0
      go_quiet (fail)
      go_wp2_with fail
      go_meet
      exact ⟨rfl, _, rfl⟩
  case rest =>
    obtain ⟨rfl, hz⟩ := hcut
    obtain ⟨z, hz⟩ := hz.out
    have hW : Below w.heap.size w wc := by rw [hz]; exact below_drewN ((Below.refl _ _).alloc (Nat.le_refl _) _) z
    have s0 : wc.cell? ⟨w.heap.size, 0, none⟩ = some (.int .i64 2) := by rw [hz]; simp [World.cell?_alloc_new]
    have s1 : wc.cell? ⟨w.heap.size, 1, none⟩ = some (.int .i64 a) := by rw [hz]; simp [World.cell?_alloc_new]
    have s2 : wc.cell? ⟨w.heap.size, 2, none⟩ = some (.int .i64 k) := by rw [hz]; simp [World.cell?_alloc_new]
    have hsz : w.heap.size < wc.heap.size := by rw [hz]; simp
    have hwt : ∃ sc, wc.heap[w.heap.size]? = some (.cells sc 36 (0, 0)) := ⟨_, by rw [hz]; exact heap_alloc_new _ _⟩
    have HD := Lib.hid (H.out.new hW)
    have HW := Lib.hid (hW.mono H.out.base.low)
    have hdc : db < wc.heap.size := by omega
    clear hz hW d0 d1
    obtain ⟨d0, d1, _, _⟩ := DK.cells HD.out.base.box
    obtain ⟨sb, hsb⟩ : ∃ sb, sb = w.heap.size := ⟨_, rfl⟩
    rw [← hsb] at s0 s1 s2 hsz hwt ⊢
    clear hltd H hsb
    have hst : stpD (2, a, k, t) (E.length, l) = ((E.length, (Hp.popD ltQ l).dropLast), [g l 0]) := by
      unfold stpD
      rw [if_neg (by simp), if_pos ⟨rfl, hl⟩]
    have HST := Lib.hid hst
    have HRQ := Lib.hid (HD.out.rq (by omega))
    obtain ⟨m, hm, hm2, hm3, _⟩ := HD.out.ent.mem HD.out.ok rfl hl
    have hc := pop_any queue_HI queue_HPop l [] _ HRQ.out hl (Nat.lt_succ_self _)
    unfold encE ptr at hc
    rw [hm3] at hc
    obtain ⟨k1, hk1⟩ : ∃ k1, g l 0 = (k1, (m : Int)) := ⟨(g l 0).1, Prod.ext rfl hm2⟩
    have HK1 := Lib.hid hk1
    have hKm : g K m = k1 := by
      have := (HD.out.ok.mem _ (Hp.mem_g hl)).2.2
      rw [hk1] at this
      simpa using this
    have HKM := Lib.hid hKm
    have HC := Lib.hid hc
    obtain ⟨em, hem⟩ : ∃ em, em = g E m := ⟨_, rfl⟩
    rw [← hem] at HC
    have HEM := Lib.hid hem
    have hta := run_assert_entry
    have MM := Lib.hid hm
    clear hst hc hk1 hKm hem hm2 hm3 hm
    go_wp2_with fail
    refine HC.out.mono ?_
    rintro e w2 ⟨rfl, hR2⟩
    obtain ⟨vq2, hd2, hb2⟩ := HD.out.moved hR2
    have HD2 := Lib.hid hd2
    have HB2 := Lib.hid (HW.out.trans hb2)
    have HX2 := Lib.hid (show w2.heap[em]? = some (EC k1 (m : Int) (ix (Hp.popD ltQ l).dropLast (m : Int))) by rw [HEM.out, ← HKM.out]; exact hd2.ent m MM.out)
    clear hR2 hd2 hb2 s0 s1 s2 d0 d1 HC
    go_wp2_with fail
    refine (gone_any HD2.out.base.box HD2.out.base.out HX2.out HD2.out.base.low (m16 hO)).mono ?_
    rintro e w3 ⟨rfl, vo3, hbx3, ho3, hf3⟩
    obtain ⟨hd3, hb3⟩ := HD2.out.left hbx3 ho3 hf3
    have HD3 := Lib.hid hd3
    have HB3 := Lib.hid (HB2.out.trans hb3)
    clear hbx3 ho3 hf3 hd3 hb3
    go_wp2
    go_end0
    exact Stepped.of HST.out (by rw [HK1.out]; exact HD3.out) rfl HB3.out

end Go.Proofs.Ytpjdpcpcfcohiaa
