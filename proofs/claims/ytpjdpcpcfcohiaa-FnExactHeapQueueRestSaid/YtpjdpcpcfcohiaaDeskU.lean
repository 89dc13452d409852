/-
  impl's (*desk).step, walked: each kind of step. Conditions: memory holds the desk; its lists stay within what append can bear.
-/
import Derived.Test.YtpjdpcpcfcohiaaDeskS
import Derived.Test.YtpjdpcpcfcohiaaDeskP
import Derived.Test.YtpjdpcpcfcohiaaPlainZ
import Derived.Deep.DeepCutAuto
import Derived.IntWalk
namespace Go.Proofs.Ytpjdpcpcfcohiaa
open Go.RowKit Go.Shelf
open Hp (g swp Ev St ix nums QV ltQ stpD)


/-- A new entry is among all, and not yet in the queue. -/
def Entd (B db : Nat) (vq vo : Value) (E : List Nat) (K : List Int) (l out : List It) (k : Int) (w0 w : World) : Prop :=
  ∃ va e, D0 B w db vq va vo (E ++ [e]) out ∧ Ents E K (ix l) w ∧ w.heap[e]? = some (EC k (E.length : Int) 0) ∧ w.ownsRow B 67 1 vq l.length (clsP (E ++ [e]) l) ∧ Below B w0 w
theorem heap_alloc_new2 (w : World) (o1 o2 : Obj) : ((w.alloc o1).alloc o2).heap[w.heap.size + 1]? = some o2 := by
  have := heap_alloc_new (w.alloc o1) o2
  rwa [heap_size_alloc] at this

set_option maxHeartbeats 4000000 in
set_option maxRecDepth 100000 in
theorem step_push {B : Nat} {w : World} {db : Nat} {vq va vo : Value} {E : List Nat} {K : List Int} {l out : List It} (h : DS B w db vq va vo E K l out) (a k t : Int) (hE : E.length + 1 ≤ 13194139537408) (_hO : out.length + 1 ≤ 13194139537408) :
    Calls Try.prog 39 #[.pointer (some ⟨db, 0, none⟩), .agg #[.int .i64 1, .int .i64 a, .int .i64 k, .int .i64 t]] w (Stepped B db (1, a, k, t) E.length l out w) := by
  obtain ⟨b, hb⟩ : ∃ b, b = decide (a ∈ nums l) := ⟨_, rfl⟩
  obtain ⟨Aq, cq, hvq⟩ := own_slice h.q
  subst hvq
  obtain ⟨Aa, ca, hva⟩ := own_slice h.base.all
  subst hva
  obtain ⟨d0, d1, _, _⟩ := DK.cells h.base.box
  have hltd := lt_of_block h.base.box
  have hlE := h.ok.few
  have H := Lib.hid h
  have HBB := Lib.hid hb
  clear h hb
  go_enter Try.func39, Try.ntmps39
  go_upto_region 1 with (fail)
  go_cut [4] (fun s4 wx => s4 = .bool b ∧ Aside (∃ z, wx = (w.alloc (.cells #[.int .i64 1, .int .i64 a, .int .i64 k, .int .i64 t] 36)).drewN z))
  case first =>
    by_cases h0 : 0 ≤ a
    · obtain ⟨m, rfl⟩ : ∃ m : Nat, a = (m : Int) := ⟨a.toNat, by omega⟩
      by_cases hlt : m < E.length
      · obtain ⟨ga, ca', hva, hga, c1, hx⟩ := H.out.entry hlt
        obtain ⟨rfl, rfl⟩ : Aa = some ⟨ga, 0, none⟩ ∧ ca = ca' := by
          injection hva with e1 _ e3
          exact ⟨e1, e3⟩
        obtain ⟨em, hem⟩ : ∃ em, em = g E m := ⟨_, rfl⟩
        rw [← hem] at c1 hx
        obtain ⟨_, _, x2, _⟩ := EC.cells hx
        have hlx := lt_of_block hx
        clear hx hva hem
        by_cases hm : (m : Int) ∈ nums l
        · obtain ⟨i, hi, e1, e2⟩ := Hp.ix_mem hm
          rw [e1] at x2
          obtain rfl : b = true := by rw [HBB.out]; exact decide_eq_true hm
          clear e1 e2 hm
          go_quiet (fail)
          go_wp2_with fail
          go_meet
          exact ⟨rfl, _, rfl⟩
        · rw [Hp.ix_none hm] at x2
          obtain rfl : b = false := by rw [HBB.out]; exact decide_eq_false hm
          clear hm
          go_quiet (fail)
          go_wp2_with fail
          go_meet
          exact ⟨rfl, _, rfl⟩
      · obtain rfl : b = false := by
          rw [HBB.out]
          refine decide_eq_false (fun hm => hlt ?_)
          obtain ⟨p, hp, e⟩ := List.mem_map.1 hm
          have := (H.out.ok.mem p hp).2.1
          omega
        have hd : decide (m < E.length) = false := decide_eq_false hlt
        go_quiet (fail)
        go_wp2_with fail
        go_meet
        exact ⟨rfl, _, rfl⟩
    · obtain rfl : b = false := by
        rw [HBB.out]
        refine decide_eq_false (fun hm => h0 ?_)
        obtain ⟨p, hp, e⟩ := List.mem_map.1 hm
        have := (H.out.ok.mem p hp).1
        omega
      have hd : decide (0 ≤ a) = false := decide_eq_false h0
      go_quiet (fail)
      go_wp2_with fail
      go_meet
      exact ⟨rfl, _, rfl⟩
  case rest =>
    obtain ⟨rfl, hz⟩ := hcut
    obtain ⟨z, hz⟩ := hz.out
    have hW : Below w.heap.size w wc := by rw [hz]; exact below_drewN ((Below.refl _ _).alloc (Nat.le_refl _) _) z
    have s0 : wc.cell? ⟨w.heap.size, 0, none⟩ = some (.int .i64 1) := by rw [hz]; simp [World.cell?_alloc_new]
    have s1 : wc.cell? ⟨w.heap.size, 1, none⟩ = some (.int .i64 a) := by rw [hz]; simp [World.cell?_alloc_new]
    have s2 : wc.cell? ⟨w.heap.size, 2, none⟩ = some (.int .i64 k) := by rw [hz]; simp [World.cell?_alloc_new]
    have hsz : w.heap.size < wc.heap.size := by rw [hz]; simp
    have hwt : ∃ sc, wc.heap[w.heap.size]? = some (.cells sc 36 (0, 0)) := ⟨_, by rw [hz]; exact heap_alloc_new _ _⟩
    have HD := Lib.hid (H.out.new hW)
    have HW := Lib.hid (hW.mono H.out.base.low)
    have hdc : db < wc.heap.size := by omega
    clear hz hW d0 d1
    obtain ⟨d0, d1, _, _⟩ := DK.cells HD.out.base.box
    obtain ⟨sb, hsb⟩ : ∃ sb, sb = w.heap.size := ⟨_, rfl⟩
    rw [← hsb] at s0 s1 s2 hsz hwt ⊢
    clear hltd H hsb
    have hst : stpD (1, a, k, t) (E.length, l) = ((E.length + 1, Hp.push ltQ l (k, (E.length : Int))), []) := by
      unfold stpD
      rw [if_pos rfl]
    have HST := Lib.hid hst
    obtain ⟨n, hn⟩ : ∃ n, n = E.length := ⟨_, rfl⟩
    rw [← hn] at d1
    have HNN := Lib.hid hn
    have hn1 : n + 1 ≤ 13194139537408 := by omega
    have HOA := Lib.hid HD.out.base.all
    have HLOW := Lib.hid HD.out.base.low
    have hta := run_assert_entry
    have HKS := Lib.hid (show ∀ w3 : World, ((wc.drew.alloc (EC k (n : Int) 0)).alloc (.cells #[ptr wc.heap.size] 67)).grownBy w3 (Value.slice Aa E.length ca).ownBlock → w3.cell? ⟨sb, 2, none⟩ = some (.int .i64 k) from fun w3 hg3 => by
      obtain ⟨sc, hsc⟩ := hwt
      refine hg3.cell (a := ⟨sb, 2, none⟩) (v := .int .i64 k) ?_ ?_
      · rw [World.cell?_alloc_lt _ _ _ (by simp; omega), World.cell?_alloc_lt _ _ _ (by simpa using hsz)]
        exact s2
      · exact fun e => own_ne HOA.out hsc (by decide) e.symm)
    have HSD := Lib.hid (show db ≠ sb by
      obtain ⟨sc, hsc⟩ := hwt
      intro e
      have hbx := HD.out.base.box
      rw [e, hsc] at hbx
      unfold DK at hbx
      injection hbx with hbx
      injection hbx with _ ht
      exact absurd ht (by decide))
    clear hst hwt d0 s1 hn HBB
    obtain ⟨w1, hw1⟩ : ∃ w1, w1 = wc := ⟨_, rfl⟩
    rw [← hw1] at s0 s2 d1 HD HW hsz hdc HLOW HOA HKS ⊢
    clear hw1
    go_upto_region 3 with (fail)
    go_cut [36] (fun _ wx => Aside (Entd B db (.slice Aq l.length cq) vo E K l out k w wx))
    case first =>
      go_region_law
        (first
          | (refine wanted_plain rfl (wp_append_ptr Try.underlying59 (.tmp 40) (.tmp 50) rfl (.slice Aa E.length ca) B E.length (E.map ptr) w1.heap.size (w1.heap.size + 1) (by simp [Act.eval, HNN.out]) (by simp [Act.eval]) ?_ ?_ ?_ ?_ ?_)
             · exact ((HOA.out.drew.alloc _).alloc _)
             · exact (heap_alloc_new2 _ _ _)
             · omega
             · have := HLOW.out; simp; omega
             intro A3 c3 w3 ho3 hg3 hl3
             obtain ⟨hm3, hD3, hE3, hX3, hQ3, hB3⟩ := HD.out.entered k HNN.out (.cells #[ptr w1.heap.size] 67) ho3 hg3 hl3
             have HEN := Lib.hid (show Entd B db (.slice Aq l.length cq) vo E K l out k w _ from ⟨_, _, hD3, hE3, hX3, hQ3, HW.out.trans hB3⟩)
             obtain ⟨_, k3, _, kf3⟩ := DK.cells hm3
             rw [← HNN.out] at k3
             have f3 := kf3 1
             clear kf3 hm3 hl3 ho3 hg3 hD3 hE3 hX3 hQ3 hB3))
      all_goals
        go_wp2_with fail
        go_meet
        exact HEN.out
    case rest =>
      obtain ⟨va2, e1, hD, hEn, hX, hQ, hB⟩ := hcut.out
      obtain ⟨A2, c2, hva2⟩ := own_slice hD.all
      subst hva2
      obtain ⟨ga, hA2, _, hga⟩ := own_addr hD.all (by simp)
      subst hA2
      have hel : (E ++ [e1]).length = n + 1 := by rw [List.length_append, HNN.out]; rfl
      have hc1 := (hD.all.cellAt n (by rw [hel]; omega))
      have hge : ((E ++ [e1]).map ptr)[n]? = some (.pointer (some ⟨e1, 0, none⟩)) := by rw [List.getElem?_map, HNN.out, List.getElem?_append_right (Nat.le_refl _)]; simp [ptr]
      rw [hge] at hc1
      obtain ⟨q0, q1, _, _⟩ := DK.cells hD.box
      rw [hel] at q1
      have hd2 := lt_of_block hD.box
      have hDd := hD.new (w' := wc.drew) ((Below.refl _ _).drew)
      have HCP := Lib.hid (push_at (M := (Hp.upCalls ltQ (l ++ [(k, (E.length : Int))]) l.length).length) queue_HI l [] (k, (E.length : Int)) (.iface 67 (.pointer (some ⟨e1, 0, none⟩))) wc.drew (by omega)
        ⟨74, _, run_method_ptr _ mthPush Try.underlying71, enters_of Try.func74 (by kernel_rfl) rfl, (queue_push hDd.box hQ.drew hX hDd.low (by omega)).mono (by
          rintro e w' ⟨rfl, v', hb', ho', hx', hf', hl'⟩
          exact ⟨rfl, hDd.pushed (by rw [hel]; omega) hEn HD.out.ok HD.out.kl hb' ho' hx' hf' hl'⟩)⟩ (by simp))
      have HDD := Lib.hid hDd
      have HBD := Lib.hid hB.drew
      have HKL := Lib.hid (show (K ++ [k]).length = (E ++ [e1]).length by rw [List.length_append, List.length_append, HD.out.kl]; rfl)
      have HEL := Lib.hid (show (E ++ [e1]).length = E.length + 1 by rw [List.length_append]; rfl)
      have hwr : IntKind.i64.wrap ((n : Int) + 1 - 1) = (n : Int) := by rw [show ((n : Int) + 1 - 1) = (n : Int) by omega]; exact IntWalk.i64_in _ (by omega)
      have hwr2 : IntKind.i64.wrap (((n + 1 : Nat) : Int) - 1) = (n : Int) := by rw [show (((n + 1 : Nat) : Int) - 1) = (n : Int) by omega]; exact IntWalk.i64_in _ (by omega)
      have hwr3 : IntKind.i64.wrap (n : Int) = (n : Int) := IntWalk.i64_in _ (by omega)
      have hi0 : (0 : Int) ≤ (n : Int) := by omega
      have hi1 : (n : Int) < (n : Int) + 1 := by omega
      have hi2 : n < n + 1 := by omega
      clear hel hge hD hEn hX hQ hB hDd HD HW hcut s0 s2 d1 q0
      go_wp2_with fail
      go_region_with
        (first
          | (go_at_call 44
             refine HCP.out.mono ?_
             rintro e w4 ⟨rfl, hR4⟩
             obtain ⟨vq4, hd4, hb4⟩ := HDD.out.moved HKL.out hR4
             have HD4 := Lib.hid hd4
             have HB4 := Lib.hid (HBD.out.trans hb4)
             clear hR4 hd4 hb4))
      all_goals
        go_wp2
        go_end0
        exact Stepped.of HST.out (by rw [List.append_nil]; exact HD4.out) HEL.out HB4.out

end Go.Proofs.Ytpjdpcpcfcohiaa
