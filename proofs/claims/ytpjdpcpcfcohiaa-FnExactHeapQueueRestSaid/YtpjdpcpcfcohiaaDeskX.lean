/-
  impl's (*desk).step, walked: each kind of step. Conditions: memory holds the desk; its lists stay within what append can bear.
-/
import Derived.Test.YtpjdpcpcfcohiaaDeskS
import Derived.Test.YtpjdpcpcfcohiaaPlainZ
import Derived.Deep.DeepCutAuto
import Derived.IntWalk
namespace Go.Proofs.Ytpjdpcpcfcohiaa
open Go.RowKit Go.Shelf
open Hp (g swp Ev St ix nums QV ltQ stpD)


set_option maxHeartbeats 4000000 in
set_option maxRecDepth 100000 in
theorem step_fix {B : Nat} {w : World} {db : Nat} {vq va vo : Value} {E : List Nat} {K : List Int} {l out : List It} (h : DS B w db vq va vo E K l out) (a k t : Int) (hin : a ∈ nums l) (hE : E.length + 1 ≤ 13194139537408) (_hO : out.length + 1 ≤ 13194139537408) :
    Calls Try.prog 39 #[.pointer (some ⟨db, 0, none⟩), .agg #[.int .i64 4, .int .i64 a, .int .i64 k, .int .i64 t]] w (Stepped B db (4, a, k, t) E.length l out w) := by
  obtain ⟨b, hb⟩ : ∃ b, b = decide (a ∈ nums l) := ⟨_, rfl⟩
  obtain ⟨Aq, cq, hvq⟩ := own_slice h.q
  subst hvq
  obtain ⟨Aa, ca, hva⟩ := own_slice h.base.all
  subst hva
  obtain ⟨d0, d1, _, _⟩ := DK.cells h.base.box
  have hltd := lt_of_block h.base.box
  have hlE := h.ok.few
  have H := Lib.hid h
  have HBB := Lib.hid hb
  clear h hb
  go_enter Try.func39, Try.ntmps39
  go_upto_region 1 with (fail)
  go_cut [4] (fun s4 wx => s4 = .bool b ∧ Aside (∃ z, wx = (w.alloc (.cells #[.int .i64 4, .int .i64 a, .int .i64 k, .int .i64 t] 36)).drewN z))
  case first =>
    by_cases h0 : 0 ≤ a
    · obtain ⟨m, rfl⟩ : ∃ m : Nat, a = (m : Int) := ⟨a.toNat, by omega⟩
      by_cases hlt : m < E.length
      · obtain ⟨ga, ca', hva, hga, c1, hx⟩ := H.out.entry hlt
        obtain ⟨rfl, rfl⟩ : Aa = some ⟨ga, 0, none⟩ ∧ ca = ca' := by
          injection hva with e1 _ e3
          exact ⟨e1, e3⟩
        obtain ⟨em, hem⟩ : ∃ em, em = g E m := ⟨_, rfl⟩
        rw [← hem] at c1 hx
        obtain ⟨_, _, x2, _⟩ := EC.cells hx
        have hlx := lt_of_block hx
        clear hx hva hem
        by_cases hm : (m : Int) ∈ nums l
        · obtain ⟨i, hi, e1, e2⟩ := Hp.ix_mem hm
          rw [e1] at x2
          obtain rfl : b = true := by rw [HBB.out]; exact decide_eq_true hm
          clear e1 e2 hm
          go_quiet (fail)
          go_wp2_with fail
          go_meet
          exact ⟨rfl, _, rfl⟩
        · rw [Hp.ix_none hm] at x2
          obtain rfl : b = false := by rw [HBB.out]; exact decide_eq_false hm
          clear hm
          go_quiet (fail)
          go_wp2_with fail
          go_meet
          exact ⟨rfl, _, rfl⟩
      · obtain rfl : b = false := by
          rw [HBB.out]
          refine decide_eq_false (fun hm => hlt ?_)
          obtain ⟨p, hp, e⟩ := List.mem_map.1 hm
          have := (H.out.ok.mem p hp).2.1
          omega
        have hd : decide (m < E.length) = false := decide_eq_false hlt
        go_quiet (fail)
        go_wp2_with fail
        go_meet
        exact ⟨rfl, _, rfl⟩
    · obtain rfl : b = false := by
        rw [HBB.out]
        refine decide_eq_false (fun hm => h0 ?_)
        obtain ⟨p, hp, e⟩ := List.mem_map.1 hm
        have := (H.out.ok.mem p hp).1
        omega
      have hd : decide (0 ≤ a) = false := decide_eq_false h0
      go_quiet (fail)
      go_wp2_with fail
      go_meet
      exact ⟨rfl, _, rfl⟩
  case rest =>
    obtain ⟨rfl, hz⟩ := hcut
    obtain ⟨z, hz⟩ := hz.out
    have hW : Below w.heap.size w wc := by rw [hz]; exact below_drewN ((Below.refl _ _).alloc (Nat.le_refl _) _) z
    have s0 : wc.cell? ⟨w.heap.size, 0, none⟩ = some (.int .i64 4) := by rw [hz]; simp [World.cell?_alloc_new]
    have s1 : wc.cell? ⟨w.heap.size, 1, none⟩ = some (.int .i64 a) := by rw [hz]; simp [World.cell?_alloc_new]
    have s2 : wc.cell? ⟨w.heap.size, 2, none⟩ = some (.int .i64 k) := by rw [hz]; simp [World.cell?_alloc_new]
    have hsz : w.heap.size < wc.heap.size := by rw [hz]; simp
    have hwt : ∃ sc, wc.heap[w.heap.size]? = some (.cells sc 36 (0, 0)) := ⟨_, by rw [hz]; exact heap_alloc_new _ _⟩
    have HD := Lib.hid (H.out.new hW)
    have HW := Lib.hid (hW.mono H.out.base.low)
    have hdc : db < wc.heap.size := by omega
    clear hz hW d0 d1
    obtain ⟨d0, d1, _, _⟩ := DK.cells HD.out.base.box
    obtain ⟨sb, hsb⟩ : ∃ sb, sb = w.heap.size := ⟨_, rfl⟩
    rw [← hsb] at s0 s1 s2 hsz hwt ⊢
    clear hltd H hsb
    obtain ⟨i, hi, hix, hg2⟩ := Hp.ix_mem hin
    obtain ⟨m, hmE, hm2, hm3, hx⟩ := HD.out.ent.mem HD.out.ok rfl hi
    have ham : a = (m : Int) := by rw [← hg2]; exact hm2
    subst ham
    obtain rfl : b = true := by rw [HBB.out]; exact decide_eq_true hin
    obtain ⟨ga, ca', hva, hga, c1, hx⟩ := HD.out.entry hmE
    obtain ⟨rfl, rfl⟩ : Aa = some ⟨ga, 0, none⟩ ∧ ca = ca' := by
      injection hva with e1 _ e3
      exact ⟨e1, e3⟩
    rw [hix] at hx
    obtain ⟨k1, hk1⟩ : ∃ k1, g l i = (k1, (m : Int)) := ⟨(g l i).1, Prod.ext rfl hm2⟩
    have HK1 := Lib.hid hk1
    have hKm : g K m = k1 := by
      have := (HD.out.ok.mem _ (Hp.mem_g hi)).2.2
      rw [hk1] at this
      simpa using this
    have HKM := Lib.hid hKm
    have MM := Lib.hid hmE
    obtain ⟨em, hem⟩ : ∃ em, em = g E m := ⟨_, rfl⟩
    have HEM := Lib.hid hem
    rw [← hem] at c1 hx
    obtain ⟨x0, _, x2, xf⟩ := EC.cells hx
    have hlx := lt_of_block hx
    have hli : i < 4611686018427387904 := by omega
    have hl0 : (0 : Int) ≤ (m : Int) := by omega
    have hl1 : (m : Int) < (E.length : Int) := by omega

    have hst : stpD (4, (m : Int), k, t) (E.length, l) = ((E.length, Hp.fix ltQ (l.set i (k, (m : Int))) i), []) := by
      have e : (nums l).idxOf (m : Int) = i := by have := hix; unfold ix at this; rw [if_pos hin] at this; omega
      unfold stpD
      rw [if_neg (by simp), if_neg (by simp), if_neg (by simp), if_pos ⟨rfl, hin⟩]
      simp only
      rw [e]
    have HST := Lib.hid hst
    obtain ⟨hdk, hbk⟩ := HD.out.key hi (by rw [HK1.out]) k
    rw [← hem] at hdk hbk
    have xf0 := xf 0
    obtain ⟨W, hW⟩ : ∃ W, W = (wc.setCell ⟨em, 0, none⟩ (.int .i64 k)).drew := ⟨_, rfl⟩
    have hdW := hdk.new (w' := W) (by rw [hW]; exact (Below.refl _ _).drew)
    have HDW := Lib.hid (hdW.new (w' := W.drew) ((Below.refl _ _).drew))
    have HBW := Lib.hid (show Below B w W.drew by rw [hW]; exact (HW.out.trans hbk).drew.drew)
    have HRQ := Lib.hid (HDW.out.rq (by omega))
    have hc := fix_any queue_HI (l.set i (k, (m : Int))) [] i _ HRQ.out (by simpa using hi) (Nat.le_refl _)
    have hne1 : em ≠ sb := by
      obtain ⟨sc, hsc⟩ := hwt
      intro e
      rw [e, hsc] at hx
      unfold EC at hx
      injection hx with hx
      injection hx with _ ht
      exact absurd ht (by decide)
    have hned : em ≠ db := by rw [HEM.out]; exact HD.out.ent.ne HD.out.base.box (by decide) m MM.out
    have hneg : em ≠ ga := by
      rw [HEM.out]
      intro e
      exact HD.out.base.ae ga rfl (by rw [← e]; exact Hp.mem_g MM.out)
    have S1 : W.cell? ⟨sb, 1, none⟩ = some (.int .i64 (m : Int)) := by rw [hW]; exact (World.cell?_setCell_far wc ⟨em, 0, none⟩ ⟨sb, 1, none⟩ _ hne1).trans s1
    have D1 : W.cell? ⟨db, 1, none⟩ = some (.slice (some ⟨ga, 0, none⟩) E.length ca) := by rw [hW]; exact (World.cell?_setCell_far wc ⟨em, 0, none⟩ ⟨db, 1, none⟩ _ hned).trans d1
    have C1 : W.cell? ⟨ga, m, none⟩ = some (.pointer (some ⟨em, 0, none⟩)) := by rw [hW]; exact (World.cell?_setCell_far wc ⟨em, 0, none⟩ ⟨ga, m, none⟩ _ hneg).trans c1
    have X2 : W.cell? ⟨em, 2, none⟩ = some (.int .i64 (i : Int)) := by rw [hW]; exact (World.cell?_setCell_other _ _ _ _ (by simp)).trans x2
    have HWE := Lib.hid hW
    clear hst hk1 hKm hem hm2 hm3 hmE hx hix hg2 hva hin hwt xf d0 hW hdk hbk hdW hne1 hned hneg
    go_wp2_with fail
    go_region
    all_goals
      go_wp2_with fail
      rw [← HWE.out]
      clear s0 s1 s2 d1 c1 x0 x2 xf0
      go_region_with
        (first
          | (go_at_call 48
             refine hc.mono ?_
             rintro e w2 ⟨rfl, hR2⟩
             obtain ⟨vq2, hd2, hb2⟩ := HDW.out.moved hR2
             have HD2 := Lib.hid hd2
             have HB2 := Lib.hid (HBW.out.trans hb2)
             clear hR2 hd2 hb2 hc))
      all_goals
        go_wp2
        go_end0
        exact Stepped.of HST.out (by rw [List.append_nil]; exact HD2.out) rfl HB2.out

end Go.Proofs.Ytpjdpcpcfcohiaa
