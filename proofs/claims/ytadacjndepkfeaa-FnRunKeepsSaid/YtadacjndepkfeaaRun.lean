/-
  impl.HeapContinue and impl.HeapRun: what they return. Conditions: memory holds the list and the steps; they are within the reach of slices.
-/
import Derived.Test.YtadacjndepkfeaaRunA
import Derived.Test.YtadacjndepkfeaaNewits
namespace Go.Proofs.Ytadacjndepkfeaa
open Go.RowKit Go.Shelf
open Hp (g swp Ev St plc)

set_option maxHeartbeats 2000000 in
set_option maxRecDepth 100000 in
theorem heapContinue_any (w : World) (A As : Option Addr) (n c m cs : Nat) (l : List It) (ss : List St) (hl : n = l.length) (hm : m = ss.length) (hr : Rd w A (cls l)) (hrs : Rd w As (clsT ss)) (hn : (l.length + ss.length + 1) * 16 ≤ 211106232598528) (hns : ss.length * 32 ≤ 140737488355328) :
    Calls Try.prog 27 #[.slice A n c, .slice As m cs] w (Runs w (stsI l ss) (outsI l ss)) := by
  subst hl
  subst hm
  go_enter Try.func27, Try.ntmps27
  go_wp2_with fail
  refine (copied_any _ A _ c l rfl hr (by omega)).mono ?_
  rintro e w1 ⟨A1, c1, rfl, ho1, hb1⟩
  have HB1 := Lib.hid hb1
  have HO1 := Lib.hid ho1
  clear ho1 hb1 hr
  go_wp2_with fail
  refine (copied_any _ A1 _ c1 l rfl ((Rd.of_own HO1.out).below ((Below.refl _ _).alloc (Nat.le_refl _) _) (Nat.le_refl _)) (by omega)).mono ?_
  rintro e w2 ⟨A2, c2, rfl, ho2, hb2⟩
  rw [heap_size_alloc] at ho2 hb2
  obtain ⟨hci, hbw⟩ := CI.start HO1.out HB1.out ho2 hb2
  have HCI := Lib.hid hci
  have HBW := Lib.hid hbw
  clear hci hbw ho2 hb2 HO1 HB1
  obtain ⟨hb, hhb⟩ : ∃ hb, hb = w1.heap.size := ⟨_, rfl⟩
  rw [← hhb] at HCI ⊢
  clear hhb
  go_wp2_with fail
  go_loopw [7, 8, 18] (fun s7 s8 s18 wr => ∃ (k : Nat) (vh : Value) (vs : List Value) (L O : List It) (S : List (List It)), s18 = .int .i64 (k : Int) ∧ k ≤ ss.length ∧ L.length ≤ l.length + k ∧ O.length ≤ k ∧ Aside (CI w.heap.size wr hb vh s8 s7 L O vs S) ∧ Below w.heap.size w wr ∧
      Hid (S.length = k + 1) ∧ Hid (L = afterI l (ss.take k) ∧ O = outsI l (ss.take k) ∧ S = stsI l (ss.take k)))
    (fun _ _ s18 _ => ss.length - (intOf s18).toNat)
  case atStart => exact ⟨0, _, _, l, [], [l], rfl, by omega, by omega, by simp, HCI.out, HBW.out, rfl, rfl, rfl, rfl⟩
  case round =>
    obtain ⟨k, vh, vs, L, O, S, rfl, hk, hal, hol, hci, hbw, HSL, HEQ⟩ := hrel
    clear HCI HBW
    by_cases hlt : k < ss.length
    · obtain ⟨b, o, rfl, hbb, h1, h2, h3, h4⟩ := (hrs.below hbw (Nat.le_refl _)).atT k hlt
      have hsz := hbw.size
      obtain ⟨⟨q, a, kk, t⟩, hx⟩ : ∃ x, g ss k = x := ⟨_, rfl⟩
      rw [hx] at h1 h2 h3 h4
      have hc1 := hci.out.new ((Below.refl _ _).alloc (Nat.le_refl _) (.cells #[.int .i64 q, .int .i64 a, .int .i64 kk, .int .i64 t] 45))
      have HC1 := Lib.hid hc1
      have HBW := Lib.hid (hbw.alloc hsz (.cells #[.int .i64 q, .int .i64 a, .int .i64 kk, .int .i64 t] 45))
      have hn1 : (L.length + 1) * 16 ≤ 211106232598528 := m16 (by omega)
      have hn2 : (O.length + 1) * 16 ≤ 211106232598528 := m16 (by omega)
      have hlen3 := Hp.stp_length ltK mkI (q, a, kk, t) L
      obtain ⟨L3, hL3⟩ : ∃ L3, L3 = (stpI (q, a, kk, t) L).1 := ⟨_, rfl⟩
      obtain ⟨O3, hO3⟩ : ∃ O3, O3 = O ++ (stpI (q, a, kk, t) L).2 := ⟨_, rfl⟩
      have hl3 : L3.length ≤ l.length + (k + 1) := by rw [hL3]; have := hlen3.1; exact Nat.le_trans this (by omega)
      have ho3 : O3.length ≤ k + 1 := by rw [hO3, List.length_append]; have := hlen3.2; exact Nat.add_le_add hol this
      have HEQ3 : Hid (L3 = afterI l (ss.take (k + 1)) ∧ O3 = outsI l (ss.take (k + 1)) ∧ S ++ [L3] = stsI l (ss.take (k + 1))) := by
        obtain ⟨e1, e2, e3⟩ := HEQ.out
        have e4 : L3 = afterI l (ss.take (k + 1)) := by rw [afterI_succ ss l k hlt, hx, ← e1, hL3]
        refine ⟨e4, ?_, ?_⟩
        · rw [outsI_succ ss l k hlt, hx, ← e1, ← e2, hO3]
        · rw [stsI_succ ss l k hlt, ← e3, ← e4]
      have HSC := Lib.hid (step_any HC1.out.hs hn1 hn2 (q, a, kk, t))
      rw [← hL3, ← hO3] at HSC
      clear hx hc1 hci hbw hL3 hO3 hlen3
      go_wp2_with fail
      refine HSC.out.mono ?_
      rintro e w3 ⟨vh3, vo3, rfl, hs3, hf3, hli3, hm3⟩
      have hb3 := HC1.out.step_below hs3 hf3
      have hc3 := HC1.out.step hs3 hf3 hli3 hm3
      obtain ⟨A3, c3, hv3⟩ := own_slice hc3.hs.heap
      subst hv3
      have hcell := cell_of_one hc3.hs.box
      have hz3 := lt_of_block hc3.hs.box
      have HC3 := Lib.hid hc3
      have HB3 := Lib.hid (HBW.out.trans hb3)
      clear hs3 hf3 hli3 hm3 hb3 hc3 h1 h2 h3 h4 HSC
      have hn3 : L3.length * 16 ≤ 211106232598528 := m16 (by omega)
      go_wp2_with fail
      refine (copied_any w3 A3 _ c3 L3 rfl (Rd.of_own HC3.out.hs.heap) hn3).mono ?_
      rintro e w4 ⟨A4, c4, rfl, ho4, hb4⟩
      have HO4 := Lib.hid ho4
      have HB4 := Lib.hid hb4
      have hz4 : hb < w4.heap.size := Nat.lt_of_lt_of_le hz3 hb4.size
      have HC4 := Lib.hid (HC3.out.new hb4)
      have HS24 : Hid ((S.length + 1) * 24 ≤ 211106232598528) := by rw [HSL.out]; exact m24 (by omega)
      have HLW : Hid (w.heap.size ≤ (w4.alloc (.cells #[.slice A4 L3.length c4] 25)).heap.size) := by rw [heap_size_alloc]; exact Nat.le_succ_of_le HC4.out.hs.low
      clear ho4 hb4 hcell
      go_wp2_with (at_builtin; refine wpList_append_row rfl _ _ rfl _ w.heap.size S.length vs (.slice A4 L3.length c4) w4.heap.size rfl rfl rfl (HC4.out.row.alloc _) (heap_alloc_new _ _) HS24.out HLW.out ?_)
      intro A5 c5 w5 ho5 hg5 hl5
      obtain ⟨hc5, hb5⟩ := HC3.out.push HB4.out HO4.out ((Below.refl _ _).alloc (Nat.le_refl _) _) ho5 hg5 (heap_size_alloc _ _) (by simpa using hl5)
      have HC5 := Lib.hid hc5
      have HB5 := Lib.hid (HB3.out.trans hb5)
      clear hc5 hb5 ho5 hg5 hl5
      go_wp2
      go_roundw
      case rel =>
        exact ⟨k + 1, _, _, L3, O3, S ++ [L3], by go_num, by omega, hl3, ho3, HC5.out, HB5.out, by rw [List.length_append, HSL.out]; rfl, HEQ3⟩
      case measure => simp [intOf]; omega
    · go_wp2
      have hkl : k = ss.length := by omega
      have hc := hci.out
      obtain ⟨e1, e2, e3⟩ := HEQ.out
      rw [hkl, List.take_of_length_le (Nat.le_refl _)] at e2 e3
      obtain ⟨A1, c1, e1⟩ := own_slice hc.row
      obtain ⟨A2, c2, e2⟩ := own_slice hc.hs.out
      subst e1
      subst e2
      go_ret2
      rw [← e2, ← e3]
      exact ⟨A1, c1, A2, c2, _, rfl, hc.row, hc.ss.frm (Frm.refl (fun _ => False) _) (fun _ _ e => e.elim) (fun _ _ e => e.elim), hc.hs.out, hbw⟩

set_option maxHeartbeats 2000000 in
set_option maxRecDepth 100000 in
theorem heapRun_any (w : World) (A As : Option Addr) (n c m cs : Nat) (l : List It) (ss : List St) (hl : n = l.length) (hm : m = ss.length) (hr : Rd w A (cls l)) (hrs : Rd w As (clsT ss)) (hn : (l.length + ss.length + 1) * 16 ≤ 211106232598528) (hns : ss.length * 32 ≤ 140737488355328) :
    Calls Try.prog 15 #[.slice A n c, .slice As m cs] w (Runs w (stsI (Hp.init ltK l) ss) (outsI (Hp.init ltK l) ss)) := by
  subst hl
  subst hm
  have hn1 : l.length * 16 ≤ 211106232598528 := m16 (by omega)
  go_enter Try.func15, Try.ntmps15
  go_wp2_with fail
  refine (copied_any _ A _ c l rfl hr hn1).mono ?_
  rintro e w1 ⟨A1, c1, rfl, ho1, hb1⟩
  have hs1 := hb1.size
  have HR1 := Lib.hid (RI.start ho1 hs1 (Nat.le_refl _) (by omega))
  have HB1 := Lib.hid hb1
  clear ho1 hb1 hr
  go_wp2_with fail
  refine (init_any (items_HI w.heap.size w1 w1.heap.size l.length) l [] _ HR1.out (Nat.le_refl _)).mono ?_
  rintro e w2 ⟨rfl, hR2⟩
  obtain ⟨v2, hv2, ho2⟩ := hR2.own
  obtain ⟨A2, c2, rfl⟩ := own_slice ho2
  have hcell := cell_of_one hv2
  have hll := Hp.length_init ltK l
  obtain ⟨L, hL⟩ : ∃ L, L = Hp.init ltK l := ⟨_, rfl⟩
  rw [← hL] at hcell ho2 hll
  have HL := Lib.hid hL
  have HRD := Lib.hid (Rd.of_own ho2)
  have HB2 := Lib.hid (HB1.out.trans hR2.below)
  have HN := Lib.hid (show (L.length + ss.length + 1) * 16 ≤ 211106232598528 by rw [hll]; exact hn)
  clear hv2 ho2 hR2 hL hll
  go_wp2_with fail
  refine (heapContinue_any w2 A2 As _ c2 _ cs L ss rfl rfl HRD.out (hrs.below HB2.out (Nat.le_refl _)) HN.out hns).mono ?_
  rintro e w3 ⟨A3, c3, A4, c4, vs, rfl, h1, h2, h3, hb3⟩
  have H1 := Lib.hid (own_base h1 HB2.out.size)
  have H2 := Lib.hid h2
  have H3 := Lib.hid (own_base h3 HB2.out.size)
  have HB3 := Lib.hid (bnext HB2.out hb3)
  clear h1 h2 h3 hb3 hcell
  go_wp2
  go_ret2
  rw [← HL.out]
  exact ⟨A3, c3, A4, c4, vs, rfl, H1.out, H2.out, H3.out, HB3.out⟩
end Go.Proofs.Ytadacjndepkfeaa
