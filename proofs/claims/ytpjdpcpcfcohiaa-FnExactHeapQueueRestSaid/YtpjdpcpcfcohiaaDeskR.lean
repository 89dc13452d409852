/-
  impl's (*desk).step, walked: each kind of step. Conditions: memory holds the desk; its lists stay within what append can bear.
-/
import Derived.Test.YtpjdpcpcfcohiaaDeskS
import Derived.Test.YtpjdpcpcfcohiaaPlainZ
import Derived.Deep.DeepCutAuto
import Derived.IntWalk
namespace Go.Proofs.Ytpjdpcpcfcohiaa
open Go.RowKit Go.Shelf
open Hp (g swp Ev St ix nums QV ltQ stpD)


set_option maxHeartbeats 4000000 in
set_option maxRecDepth 100000 in
theorem step_rem {B : Nat} {w : World} {db : Nat} {vq va vo : Value} {E : List Nat} {K : List Int} {l out : List It} (h : DS B w db vq va vo E K l out) (a k t : Int) (hin : a ∈ nums l) (hE : E.length + 1 ≤ 13194139537408) (hO : out.length + 1 ≤ 13194139537408) :
    Calls Try.prog 39 #[.pointer (some ⟨db, 0, none⟩), .agg #[.int .i64 3, .int .i64 a, .int .i64 k, .int .i64 t]] w (Stepped B db (3, a, k, t) E.length l out w) := by
  obtain ⟨b, hb⟩ : ∃ b, b = decide (a ∈ nums l) := ⟨_, rfl⟩
  obtain ⟨Aq, cq, hvq⟩ := own_slice h.q
  subst hvq
  obtain ⟨Aa, ca, hva⟩ := own_slice h.base.all
  subst hva
  obtain ⟨d0, d1, _, _⟩ := DK.cells h.base.box
  have hltd := lt_of_block h.base.box
  have hlE := h.ok.few
  have H := Lib.hid h
  have HBB := Lib.hid hb
  clear h hb
  go_enter Try.func39, Try.ntmps39
  go_upto_region 1 with (fail)
  go_cut [4] (fun s4 wx => s4 = .bool b ∧ Aside (∃ z, wx = (w.alloc (.cells #[.int .i64 3, .int .i64 a, .int .i64 k, .int .i64 t] 36)).drewN z))
  case first =>
    by_cases h0 : 0 ≤ a
    · obtain ⟨m, rfl⟩ : ∃ m : Nat, a = (m : Int) := ⟨a.toNat, by omega⟩
      by_cases hlt : m < E.length
      · obtain ⟨ga, ca', hva, hga, c1, hx⟩ := H.out.entry hlt
        obtain ⟨rfl, rfl⟩ : Aa = some ⟨ga, 0, none⟩ ∧ ca = ca' := by
          injection hva with e1 _ e3
          exact ⟨e1, e3⟩
        obtain ⟨em, hem⟩ : ∃ em, em = g E m := ⟨_, rfl⟩
        rw [← hem] at c1 hx
        obtain ⟨_, _, x2, _⟩ := EC.cells hx
        have hlx := lt_of_block hx
        clear hx hva hem
        by_cases hm : (m : Int) ∈ nums l
        · obtain ⟨i, hi, e1, e2⟩ := Hp.ix_mem hm
          rw [e1] at x2
          obtain rfl : b = true := by rw [HBB.out]; exact decide_eq_true hm
          clear e1 e2 hm
          go_quiet (fail)
          go_wp2_with fail
          go_meet
          exact ⟨rfl, _, rfl⟩
        · rw [Hp.ix_none hm] at x2
          obtain rfl : b = false := by rw [HBB.out]; exact decide_eq_false hm
          clear hm
          go_quiet (fail)
          go_wp2_with fail
          go_meet
          exact ⟨rfl, _, rfl⟩
      · obtain rfl : b = false := by
          rw [HBB.out]
          refine decide_eq_false (fun hm => hlt ?_)
          obtain ⟨p, hp, e⟩ := List.mem_map.1 hm
          have := (H.out.ok.mem p hp).2.1
          omega
        have hd : decide (m < E.length) = false := decide_eq_false hlt
        go_quiet (fail)
        go_wp2_with fail
        go_meet
        exact ⟨rfl, _, rfl⟩
    · obtain rfl : b = false := by
        rw [HBB.out]
        refine decide_eq_false (fun hm => h0 ?_)
        obtain ⟨p, hp, e⟩ := List.mem_map.1 hm
        have := (H.out.ok.mem p hp).1
        omega
      have hd : decide (0 ≤ a) = false := decide_eq_false h0
      go_quiet (fail)
      go_wp2_with fail
      go_meet
      exact ⟨rfl, _, rfl⟩
  case rest =>
    obtain ⟨rfl, hz⟩ := hcut
    obtain ⟨z, hz⟩ := hz.out
    have hW : Below w.heap.size w wc := by rw [hz]; exact below_drewN ((Below.refl _ _).alloc (Nat.le_refl _) _) z
    have s0 : wc.cell? ⟨w.heap.size, 0, none⟩ = some (.int .i64 3) := by rw [hz]; simp [World.cell?_alloc_new]
    have s1 : wc.cell? ⟨w.heap.size, 1, none⟩ = some (.int .i64 a) := by rw [hz]; simp [World.cell?_alloc_new]
    have s2 : wc.cell? ⟨w.heap.size, 2, none⟩ = some (.int .i64 k) := by rw [hz]; simp [World.cell?_alloc_new]
    have hsz : w.heap.size < wc.heap.size := by rw [hz]; simp
    have hwt : ∃ sc, wc.heap[w.heap.size]? = some (.cells sc 36 (0, 0)) := ⟨_, by rw [hz]; exact heap_alloc_new _ _⟩
    have HD := Lib.hid (H.out.new hW)
    have HW := Lib.hid (hW.mono H.out.base.low)
    have hdc : db < wc.heap.size := by omega
    clear hz hW d0 d1
    obtain ⟨d0, d1, _, _⟩ := DK.cells HD.out.base.box
    obtain ⟨sb, hsb⟩ : ∃ sb, sb = w.heap.size := ⟨_, rfl⟩
    rw [← hsb] at s0 s1 s2 hsz hwt ⊢
    clear hltd H hsb
    obtain ⟨i, hi, hix, hg2⟩ := Hp.ix_mem hin
    obtain ⟨m, hmE, hm2, hm3, hx⟩ := HD.out.ent.mem HD.out.ok rfl hi
    have ham : a = (m : Int) := by rw [← hg2]; exact hm2
    subst ham
    obtain rfl : b = true := by rw [HBB.out]; exact decide_eq_true hin
    obtain ⟨ga, ca', hva, hga, c1, hx⟩ := HD.out.entry hmE
    obtain ⟨rfl, rfl⟩ : Aa = some ⟨ga, 0, none⟩ ∧ ca = ca' := by
      injection hva with e1 _ e3
      exact ⟨e1, e3⟩
    rw [hix] at hx
    obtain ⟨k1, hk1⟩ : ∃ k1, g l i = (k1, (m : Int)) := ⟨(g l i).1, Prod.ext rfl hm2⟩
    have HK1 := Lib.hid hk1
    have hKm : g K m = k1 := by
      have := (HD.out.ok.mem _ (Hp.mem_g hi)).2.2
      rw [hk1] at this
      simpa using this
    have HKM := Lib.hid hKm
    have MM := Lib.hid hmE
    obtain ⟨em, hem⟩ : ∃ em, em = g E m := ⟨_, rfl⟩
    have HEM := Lib.hid hem
    rw [← hem] at c1 hx
    obtain ⟨x0, _, x2, xf⟩ := EC.cells hx
    have hlx := lt_of_block hx
    have hli : i < 4611686018427387904 := by omega
    have hl0 : (0 : Int) ≤ (m : Int) := by omega
    have hl1 : (m : Int) < (E.length : Int) := by omega

    have hst : stpD (3, (m : Int), k, t) (E.length, l) = ((E.length, (Hp.rem ltQ l i).dropLast), [(k1, (m : Int))]) := by
      have e : (nums l).idxOf (m : Int) = i := by have := hix; unfold ix at this; rw [if_pos hin] at this; omega
      unfold stpD
      rw [if_neg (by simp), if_neg (by simp), if_pos ⟨rfl, hin⟩]
      simp only
      rw [e, HK1.out]
    have HST := Lib.hid hst
    have HDD := Lib.hid (HD.out.new (w' := wc.drew) ((Below.refl _ _).drew))
    have HRQ := Lib.hid (HDD.out.rq (by omega))
    have hc := remove_any queue_HI queue_HPop l [] i _ HRQ.out hi (Nat.lt_succ_self _)
    unfold encE ptr at hc
    rw [hm3, ← hem] at hc
    have hta := run_assert_entry
    have HWD := Lib.hid (show Below B w wc.drew from HW.out.drew)
    clear hst hk1 hKm hem hm2 hm3 hmE hx hix hg2 hva hin hwt xf x0 s2 d0
    go_wp2_with fail
    go_region_with
      (first
        | (go_at_call 47
           refine hc.mono ?_
           rintro e w2 ⟨rfl, hR2⟩
           obtain ⟨vq2, hd2, hb2⟩ := HDD.out.moved hR2
           have HD2 := Lib.hid hd2
           have HB2 := Lib.hid (HWD.out.trans hb2)
           have HX2 := Lib.hid (show w2.heap[em]? = some (EC k1 (m : Int) (ix (Hp.rem ltQ l i).dropLast (m : Int))) by rw [HEM.out, ← HKM.out]; exact hd2.ent m MM.out)
           clear hR2 hd2 hb2 hc)
        | (go_at_call 45
           refine (gone_any HD2.out.base.box HD2.out.base.out HX2.out HD2.out.base.low (m16 hO)).mono ?_
           rintro e w3 ⟨rfl, vo3, hbx3, ho3, hf3⟩
           obtain ⟨hd3, hb3⟩ := HD2.out.left hbx3 ho3 hf3
           have HD3 := Lib.hid hd3
           have HB3 := Lib.hid (HB2.out.trans hb3)
           clear hbx3 ho3 hf3 hd3 hb3))
    all_goals
      go_wp2
      go_end0
      exact Stepped.of HST.out HD3.out rfl HB3.out

end Go.Proofs.Ytpjdpcpcfcohiaa
