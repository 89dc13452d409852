/-
  impl.HeapRunColumns, walked: what it returns. Conditions: memory holds the list and the steps; they are within the reach of slices.
-/
import Derived.Test.YtadacjndepkfeaaColF
import Derived.Test.YtadacjndepkfeaaLawRun
namespace Go.Proofs.Ytadacjndepkfeaa
open Go.RowKit Go.Shelf
open Hp (g swp Ev St plc)

theorem below_da (w : World) (o : Obj) : Below w.heap.size w (w.drew.alloc o) := (Below.refl w.heap.size w).drew.alloc (Nat.le_refl _) o

set_option maxHeartbeats 8000000 in
set_option maxRecDepth 100000 in
theorem columns_walk (w : World) (A As : Option Addr) (n c m cs : Nat) (l : List It) (ss : List St) (hl : n = l.length) (hm : m = ss.length) (hr : Rd w A (cls l)) (hrs : Rd w As (clsT ss)) (hn : l.length + ss.length + 1 ≤ 13194139537408) (hns : ss.length * 32 ≤ 140737488355328) :
    Calls Try.prog 25 #[.slice A n c, .slice As m cs] w (Runs w (stsI (Hp.init ltK l) ss) (outsI (Hp.init ltK l) ss)) := by
  subst hl
  subst hm
  have HR := Lib.hid hr
  have HRS := Lib.hid hrs
  obtain ⟨hb, hhb⟩ : ∃ hb, hb = w.heap.size := ⟨_, rfl⟩
  have hks0 : KS w.heap.size (w.alloc (.cells #[.slice none 0 0, .slice none 0 0] 63)) hb (.slice none 0 0) (.slice none 0 0) [] [] := by
    rw [hhb]
    exact ⟨heap_alloc_new _ _, World.ownsRow_nil _ _ _ _, World.ownsRow_nil _ _ _ _, fun k h => by simp [Value.ownBlock] at h, by simp, Nat.le_refl _⟩
  have HK0 := Lib.hid hks0
  have HB0 := Lib.hid ((Below.refl w.heap.size w).alloc (Nat.le_refl _) (.cells #[.slice none 0 0, .slice none 0 0] 63))
  clear hr hrs hks0
  go_enter Try.func25, Try.ntmps25
  go_wp2_with fail
  rw [← hhb]
  clear hhb
  go_loopw [18] (fun s18 wr => ∃ (k : Nat) (vk vt : Value), s18 = .int .i64 (k : Int) ∧ k ≤ l.length ∧ Aside (KS w.heap.size wr hb vk vt ((l.take k).map Prod.fst) ((l.take k).map Prod.snd)) ∧ Below w.heap.size w wr)
    (fun s18 _ => l.length - (intOf s18).toNat)
  case atStart => exact ⟨0, _, _, rfl, by omega, HK0.out, HB0.out⟩
  case round =>
    obtain ⟨k, vk, vt, rfl, hk, hks, hbw⟩ := hrel
    clear HK0 HB0
    have hsz := hbw.size
    by_cases hlt : k < l.length
    · obtain ⟨b, o, hA, hbb, h1, h2⟩ := (HR.out.below hbw (Nat.le_refl _)).at_ k hlt
      subst hA
      have htk := take_succ_g l k hlt
      obtain ⟨⟨x, y⟩, hx⟩ : ∃ x, g l k = x := ⟨_, rfl⟩
      rw [hx] at h1 h2 htk
      obtain ⟨K, hK⟩ : ∃ K, K = (l.take k).map Prod.fst := ⟨_, rfl⟩
      obtain ⟨T, hT⟩ : ∃ T, T = (l.take k).map Prod.snd := ⟨_, rfl⟩
      have HE := Lib.hid (show K ++ [x] = (l.take (k + 1)).map Prod.fst ∧ T ++ [y] = (l.take (k + 1)).map Prod.snd by rw [htk, hK, hT]; simp)
      have hk0 := hks.out
      rw [← hK, ← hT] at hk0
      have HKL := Lib.hid (show K.length + 1 ≤ 26388279066624 by rw [hK]; simp; omega)
      have HTL := Lib.hid (show T.length + 1 ≤ 26388279066624 by rw [hT]; simp; omega)
      obtain ⟨A1, c1, e1⟩ := own_slice hk0.ks
      obtain ⟨A2, c2, e2⟩ := own_slice hk0.ts
      subst e1
      subst e2
      have HK1 := Lib.hid (hk0.alloc (.cells #[.int .i64 x, .int .i64 y] 36))
      have HB1 := Lib.hid (hbw.alloc hsz (.cells #[.int .i64 x, .int .i64 y] 36))
      have k0 := (CB.cells hk0.box).1
      have hlb := hk0.lt
      have HGE := Lib.hid (fun i e => (hk0.ge i e).2)
      obtain ⟨m, hm⟩ : ∃ m, m = K.length := ⟨_, rfl⟩
      obtain ⟨m2, hm2⟩ : ∃ m2, m2 = T.length := ⟨_, rfl⟩
      rw [← hm] at k0
      have HM := Lib.hid hm
      have HM2 := Lib.hid hm2
      have hzz := heap_alloc_new (wr.alloc (.cells #[.int .i64 x, .int .i64 y] 36)).drew (.cells #[.int .i64 x] 3)
      rw [show (wr.alloc (.cells #[.int .i64 x, .int .i64 y] 36)).drew.heap.size = wr.heap.size + 1 from heap_size_alloc _ _] at hzz
      have HZZ := Lib.hid hzz
      clear hx htk hK hT hk0 hks hbw hm hm2 hzz
      go_wp2_with fail
      go_region_law
        (first
          | (refine wanted_plain rfl (wp_append_intC (.tmp 26) (.tmp 29) rfl (.slice A1 K.length c1) w.heap.size K x (wr.heap.size + 1) (by simp [Act.eval, HM.out]) (by simp [Act.eval]) ?_ ?_ ?_ ?_ ?_)
             · exact (HK1.out.ks.drew.alloc _)
             · exact HZZ.out
             · exact HKL.out
             · simp; omega
             intro A3 c3 w3 ho3 hg3 hl3
             obtain ⟨hm3, hS3, hF3, hL3⟩ := HK1.out.pushK (below_da _ (.cells #[.int .i64 x] 3)) ho3 hg3 hl3
             have HS3 := Lib.hid hS3
             have HF3 := Lib.hid hF3
             have k3 : w3.cell? ⟨hb, 0, none⟩ = some (.slice A1 m c1) := by rw [(CB.cells hm3).1, HM.out]
             have f3 : w3.frozen? ⟨hb, 0, none⟩ = false := (CB.cells hm3).2.2 0
             clear ho3 hg3 hl3 hS3 hF3 hL3 hm3))
      all_goals
        obtain ⟨W, hW⟩ : ∃ W, W = w3.setCell ⟨hb, 0, none⟩ (.slice A3 (K.length + 1) c3) := ⟨_, rfl⟩
        rw [← hW] at HS3 HF3 ⊢
        have j1 := (CB.cells HS3.out.box).2.1
        rw [← HM2.out] at j1
        have hlo1 := HS3.out.low
        have hlt1 := HS3.out.lt
        have hit := HF3.out.block wr.heap.size (by simp) (fun e => Nat.lt_irrefl _ (HGE.out _ e))
        rw [heap_alloc_new] at hit
        have i1 : W.cell? ⟨wr.heap.size, 1, none⟩ = some (.int .i64 y) := by simp [World.cell?, hit]
        have hsz1 : wr.heap.size < W.heap.size := lt_of_block hit
        have HB3 := Lib.hid (HB1.out.trans (HK1.out.below HF3.out))
        clear hW k3 f3 k0 hit h1 h2
        go_wp2_with fail
        go_region_law
          (first
            | (refine wanted_plain rfl (wp_append_intC (.tmp 37) (.tmp 40) rfl (.slice A2 T.length c2) w.heap.size T y W.heap.size (by simp [Act.eval, HM2.out]) (by simp [Act.eval]) ?_ ?_ ?_ ?_ ?_)
               · exact (HS3.out.ts.drew.alloc _)
               · exact heap_alloc_new _ _
               · exact HTL.out
               · simp; omega
               intro A4 c4 w4 ho4 hg4 hl4
               obtain ⟨hm4, hS4, hF4, hL4⟩ := HS3.out.pushT (below_da _ (.cells #[.int .i64 y] 3)) ho4 hg4 hl4
               rw [HE.out.1, HE.out.2] at hS4
               have HS4 := Lib.hid hS4
               have HB4 := Lib.hid (HB3.out.trans (HS3.out.below hF4))
               have k4 : w4.cell? ⟨hb, 1, none⟩ = some (.slice A2 m2 c2) := by rw [(CB.cells hm4).2.1, HM2.out]
               have f4 : w4.frozen? ⟨hb, 1, none⟩ = false := (CB.cells hm4).2.2 1
               clear ho4 hg4 hl4 hS4 hF4 hL4 hm4))
        all_goals
          go_wp2
          go_roundw
          case rel => exact ⟨k + 1, _, _, by go_num, by omega, HS4.out, HB4.out⟩
          case measure => simp [intOf]; omega
    · have hkl : k = l.length := by omega
      have hk0 := hks.out
      rw [hkl, List.take_of_length_le (Nat.le_refl _)] at hk0
      have HRC := Lib.hid (RC.begin hk0 (Nat.le_refl _) (by omega))
      have HK1 := Lib.hid hk0
      have HB1 := Lib.hid hbw
      clear hkl hk0 hks hbw
      go_wp2_with fail
      refine (init_any (columns_HI (B := w.heap.size) (w0 := wr) (hb := hb) (k0 := vk) (t0 := vt) (N := l.length)) l [] wr HRC.out (Nat.le_refl _)).mono ?_
      rintro e w2 ⟨rfl, hR2⟩
      obtain ⟨vk2, vt2, hk2, m1, m2⟩ := hR2.own
      have HB2 := Lib.hid (HB1.out.trans (HK1.out.below hR2.frm))
      have hil := Hp.length_init ltK l
      obtain ⟨L0, hL0⟩ : ∃ L0, L0 = Hp.init ltK l := ⟨_, rfl⟩
      rw [← hL0] at hk2 hil
      have HL0 := Lib.hid hL0
      have hil' : L0.length ≤ l.length := Nat.le_of_eq hil
      have HK2 := Lib.hid hk2
      have b0 := (CB.cells hk2.box).1
      have b1 := (CB.cells hk2.box).2.1
      have hz2 := hk2.lt
      clear hR2 hk2 m1 m2 hil hL0 HRC HK1 HB1
      go_wp2_with fail
      refine (columns_all HK2.out (by omega)).mono ?_
      rintro e w3 ⟨A3, c3, rfl, ho3, hb3⟩
      obtain ⟨hc3, hbw3⟩ := CC.start HK2.out ho3 hb3
      have HC0 := Lib.hid hc3
      have HBW0 := Lib.hid (HB2.out.trans hbw3)
      clear hc3 hbw3 ho3 hb3 b0 b1 HB2 HK2
      go_wp2_with fail
      go_loopw [9, 10, 55] (fun s9 s10 s55 wr => ∃ (k : Nat) (vk vt : Value) (vs : List Value) (L O : List It) (S : List (List It)), s55 = .int .i64 (k : Int) ∧ k ≤ ss.length ∧ L.length ≤ l.length + k ∧ O.length ≤ k ∧ Aside (CC w.heap.size wr hb vk vt s10 s9 L O vs S) ∧ Below w.heap.size w wr ∧
          Hid (S.length = k + 1) ∧ Hid (L = afterI L0 (ss.take k) ∧ O = outsI L0 (ss.take k) ∧ S = stsI L0 (ss.take k)))
        (fun _ _ s55 _ => ss.length - (intOf s55).toNat)
      case atStart => exact ⟨0, vk2, vt2, _, L0, [], [L0], rfl, by omega, by omega, by simp, HC0.out, HBW0.out, rfl, rfl, rfl, rfl⟩
      case round =>
        obtain ⟨k, vk, vt, vs, L, O, S, rfl, hk, hal, hol, hci, hbw, HSL, HEQ⟩ := hrel
        clear HC0 HBW0
        have hsz := hbw.size
        by_cases hlt : k < ss.length
        · obtain ⟨b, o, hAs, hbb, h1, h2, h3, h4⟩ := (HRS.out.below hbw (Nat.le_refl _)).atT k hlt
          subst hAs
          obtain ⟨⟨q, a, kk, t⟩, hx⟩ : ∃ s, g ss k = s := ⟨_, rfl⟩
          rw [hx] at h1 h2 h3 h4
          have hc1 := hci.out.new ((Below.refl _ _).alloc (Nat.le_refl _) (.cells #[.int .i64 q, .int .i64 a, .int .i64 kk, .int .i64 t] 45))
          have HC1 := Lib.hid hc1
          have HB1 := Lib.hid (hbw.alloc hsz (.cells #[.int .i64 q, .int .i64 a, .int .i64 kk, .int .i64 t] 45))
          have hlen : (stpI (q, a, kk, t) L).1.length ≤ L.length + 1 ∧ (stpI (q, a, kk, t) L).2.length ≤ 1 := Hp.stp_length ltK mkI (q, a, kk, t) L
          have HEQ3 : Hid ((stpI (q, a, kk, t) L).1 = afterI L0 (ss.take (k + 1)) ∧ O ++ (stpI (q, a, kk, t) L).2 = outsI L0 (ss.take (k + 1)) ∧ S ++ [(stpI (q, a, kk, t) L).1] = stsI L0 (ss.take (k + 1))) := by
            obtain ⟨e1, e2, e3⟩ := HEQ.out
            have e4 : (stpI (q, a, kk, t) L).1 = afterI L0 (ss.take (k + 1)) := by rw [afterI_succ ss L0 k hlt, hx, ← e1]
            refine ⟨e4, ?_, ?_⟩
            · rw [outsI_succ ss L0 k hlt, hx, ← e1, ← e2]
            · rw [stsI_succ ss L0 k hlt, ← e3, ← e4]
          have hn1 : L.length + 1 ≤ 13194139537408 := by omega
          have HNO := Lib.hid (show (O.length + 1) * 16 ≤ 211106232598528 from m16 (by omega))
          have HS24 : Hid ((S.length + 1) * 24 ≤ 211106232598528) := by rw [HSL.out]; exact m24 (by omega)
          have b0 := (CB.cells hci.out.ks.box).1
          have b1 := (CB.cells hci.out.ks.box).2.1
          have hz2 := hci.out.ks.lt
          obtain ⟨sb, hsb⟩ : ∃ sb, sb = wr.heap.size := ⟨_, rfl⟩
          have hbk := heap_alloc_new wr (.cells #[.int .i64 q, .int .i64 a, .int .i64 kk, .int .i64 t] 45)
          rw [← hsb] at hbk
          have HBK := Lib.hid hbk
          have HGE := Lib.hid (fun i e => hsb ▸ (hci.out.lt i e).2)
          clear hx hc1 hci hbw HEQ hbk
          go_wp2_with fail
          rw [← hsb]
          refine (columns_len_own HC1.out.ks).mono ?_
          rintro e w1 ⟨rfl, hb1⟩
          have hz1 := hb1.size
          rw [heap_size_alloc, ← hsb] at hz1
          have hsb1 : sb < w1.heap.size := hz1
          have hbk1 := (hb1.block sb (by rw [heap_size_alloc, ← hsb]; exact Nat.lt_succ_self _)).trans HBK.out
          have s0 : w1.cell? ⟨sb, 0, none⟩ = some (.int .i64 q) := by simp [World.cell?, hbk1]
          have s1 : w1.cell? ⟨sb, 1, none⟩ = some (.int .i64 a) := by simp [World.cell?, hbk1]
          have s2 : w1.cell? ⟨sb, 2, none⟩ = some (.int .i64 kk) := by simp [World.cell?, hbk1]
          have s3 : w1.cell? ⟨sb, 3, none⟩ = some (.int .i64 t) := by simp [World.cell?, hbk1]
          have hc1 := HC1.out.new hb1
          have HC2 := Lib.hid hc1
          have HB2 := Lib.hid (HB1.out.trans (hb1.mono HC1.out.ks.low))
          have hzb := hc1.ks.lt
          have HBK1 := Lib.hid hbk1
          clear b0 b1 h1 h2 h3 h4 hb1 hz1 hbk1 hc1 HC1 HB1 HBK hz2 hsb
          have hll : L.length < 4611686018427387904 := by omega
          by_cases h5' : q = 5
          · subst h5'
            have hst : stpI (5, a, kk, t) L = (Hp.init ltK L, []) := by unfold stpI Hp.stp; rw [if_pos rfl]
            rw [hst] at HEQ3 hlen
            have hll3 : (Hp.init ltK L).length ≤ l.length + (k + 1) := Nat.le_trans hlen.1 (by omega)
            rw [List.append_nil] at HEQ3
            have hol3 : O.length ≤ k + 1 := by omega
            have HRC := Lib.hid (RC.begin HC2.out.ks (Nat.le_refl _) hll)
            clear hst hlen
            go_wp2_with fail
            refine (init_any (columns_HI (B := w.heap.size) (w0 := w1) (hb := hb) (k0 := vk) (t0 := vt) (N := L.length)) L [] w1 HRC.out (Nat.le_refl _)).mono ?_
            rintro e w2 ⟨rfl, hR2⟩
            obtain ⟨vk3, vt3, hc3, hb3⟩ := HC2.out.movedR hR2
            have HC3 := Lib.hid hc3
            have HB3 := Lib.hid (HB2.out.trans hb3)
            clear hR2 hc3 hb3 s0 s1 s2 s3
            obtain ⟨L3, hL3⟩ : ∃ L3, L3 = Hp.init ltK L := ⟨_, rfl⟩
            obtain ⟨O3, hO3⟩ : ∃ O3, O3 = O := ⟨_, rfl⟩
            rw [← hL3] at hll3 HEQ3 HC3
            rw [← hO3] at hol3 HEQ3 HC3
            have t0 := (CB.cells HC3.out.ks.box).1
            have t1 := (CB.cells HC3.out.ks.box).2.1
            have hzt := HC3.out.ks.lt
            clear hL3 hO3
            go_wp2_with fail
            refine (columns_all HC3.out.ks (by omega)).mono ?_
            rintro e w8 ⟨A8, c8, rfl, ho8, hb8⟩
            have HO8 := Lib.hid ho8
            have HB8 := Lib.hid hb8
            have HC8 := Lib.hid (HC3.out.new hb8)
            have HLW : Hid (w.heap.size ≤ (w8.alloc (.cells #[.slice A8 L3.length c8] 25)).heap.size) := by rw [heap_size_alloc]; exact Nat.le_succ_of_le HC8.out.ks.low
            clear ho8 hb8 t0 t1
            go_wp2_with (at_builtin; refine wpList_append_row rfl _ _ rfl _ w.heap.size S.length vs (.slice A8 L3.length c8) w8.heap.size rfl rfl rfl (HC8.out.row.alloc _) (heap_alloc_new _ _) HS24.out HLW.out ?_)
            intro A9 c9 w9 ho9 hg9 hl9
            obtain ⟨hc9, hb9⟩ := HC3.out.push HB8.out HO8.out ((Below.refl _ _).alloc (Nat.le_refl _) _) ho9 hg9 (heap_size_alloc _ _) (by simpa using hl9)
            have HC9 := Lib.hid hc9
            have HB9 := Lib.hid (HB3.out.trans hb9)
            clear hc9 hb9 ho9 hg9 hl9
            go_wp2
            go_roundw
            case rel => exact ⟨k + 1, _, _, _, L3, O3, S ++ [L3], by go_num, by omega, hll3, hol3, HC9.out, HB9.out, by rw [List.length_append, HSL.out]; rfl, HEQ3⟩
            case measure => simp [intOf]; omega
          have hk5 : (q == 5) = false := by simpa using h5'
          by_cases h1' : q = 1
          · subst h1'
            have hst : stpI (1, a, kk, t) L = (Hp.push ltK L (mkI kk t), []) := by unfold stpI Hp.stp; rw [if_neg (by simp), if_pos rfl]
            rw [hst] at HEQ3 hlen
            have hll3 : (Hp.push ltK L (mkI kk t)).length ≤ l.length + (k + 1) := Nat.le_trans hlen.1 (by omega)
            rw [List.append_nil] at HEQ3
            have hol3 : O.length ≤ k + 1 := by omega
            have HRC := Lib.hid (RC.begin (N := L.length + 1) HC2.out.ks (Nat.le_succ _) (by omega))
            clear hst hlen h5'
            go_wp2_with fail
            refine (push_any (columns_HI (B := w.heap.size) (w0 := w1) (hb := hb) (k0 := vk) (t0 := vt) (N := L.length + 1)) (columns_HPush (by omega)) L [] (mkI kk t) w1 HRC.out (Nat.lt_succ_self _) (Nat.lt_succ_self _)).mono ?_
            rintro e w2 ⟨rfl, hR2⟩
            obtain ⟨vk3, vt3, hc3, hb3⟩ := HC2.out.movedR hR2
            have HC3 := Lib.hid hc3
            have HB3 := Lib.hid (HB2.out.trans hb3)
            clear hR2 hc3 hb3 s0 s1 s2 s3
            obtain ⟨L3, hL3⟩ : ∃ L3, L3 = Hp.push ltK L (mkI kk t) := ⟨_, rfl⟩
            obtain ⟨O3, hO3⟩ : ∃ O3, O3 = O := ⟨_, rfl⟩
            rw [← hL3] at hll3 HEQ3 HC3
            rw [← hO3] at hol3 HEQ3 HC3
            have t0 := (CB.cells HC3.out.ks.box).1
            have t1 := (CB.cells HC3.out.ks.box).2.1
            have hzt := HC3.out.ks.lt
            clear hL3 hO3
            go_wp2_with fail
            refine (columns_all HC3.out.ks (by omega)).mono ?_
            rintro e w8 ⟨A8, c8, rfl, ho8, hb8⟩
            have HO8 := Lib.hid ho8
            have HB8 := Lib.hid hb8
            have HC8 := Lib.hid (HC3.out.new hb8)
            have HLW : Hid (w.heap.size ≤ (w8.alloc (.cells #[.slice A8 L3.length c8] 25)).heap.size) := by rw [heap_size_alloc]; exact Nat.le_succ_of_le HC8.out.ks.low
            clear ho8 hb8 t0 t1
            go_wp2_with (at_builtin; refine wpList_append_row rfl _ _ rfl _ w.heap.size S.length vs (.slice A8 L3.length c8) w8.heap.size rfl rfl rfl (HC8.out.row.alloc _) (heap_alloc_new _ _) HS24.out HLW.out ?_)
            intro A9 c9 w9 ho9 hg9 hl9
            obtain ⟨hc9, hb9⟩ := HC3.out.push HB8.out HO8.out ((Below.refl _ _).alloc (Nat.le_refl _) _) ho9 hg9 (heap_size_alloc _ _) (by simpa using hl9)
            have HC9 := Lib.hid hc9
            have HB9 := Lib.hid (HB3.out.trans hb9)
            clear hc9 hb9 ho9 hg9 hl9
            go_wp2
            go_roundw
            case rel => exact ⟨k + 1, _, _, _, L3, O3, S ++ [L3], by go_num, by omega, hll3, hol3, HC9.out, HB9.out, by rw [List.length_append, HSL.out]; rfl, HEQ3⟩
            case measure => simp [intOf]; omega
          have hk1 : (q == 1) = false := by simpa using h1'
          by_cases h0 : L.length = 0
          · have hst : stpI (q, a, kk, t) L = (L, []) := by unfold stpI Hp.stp; rw [if_neg h5', if_neg h1', if_pos h0]
            rw [hst] at HEQ3 hlen
            have hll3 : (L).length ≤ l.length + (k + 1) := Nat.le_trans hlen.1 (by omega)
            rw [List.append_nil] at HEQ3
            have hol3 : O.length ≤ k + 1 := by omega
            have hq0 : ((L.length : Int) == 0) = true := by rw [h0]; rfl
            clear hst hlen h5' h1' h0
            obtain ⟨L3, hL3⟩ : ∃ L3, L3 = L := ⟨_, rfl⟩
            obtain ⟨O3, hO3⟩ : ∃ O3, O3 = O := ⟨_, rfl⟩
            have hL0n : L.length = L3.length := by rw [hL3]
            rw [← hL3] at hll3 HEQ3 HC2
            rw [← hO3] at hol3 HEQ3 HC2
            have t0 := (CB.cells HC2.out.ks.box).1
            have t1 := (CB.cells HC2.out.ks.box).2.1
            have hzt := HC2.out.ks.lt
            clear hL3 hO3
            go_wp2_with fail
            refine (columns_all HC2.out.ks (by omega)).mono ?_
            rintro e w8 ⟨A8, c8, rfl, ho8, hb8⟩
            have HO8 := Lib.hid ho8
            have HB8 := Lib.hid hb8
            have HC8 := Lib.hid (HC2.out.new hb8)
            have HLW : Hid (w.heap.size ≤ (w8.alloc (.cells #[.slice A8 L3.length c8] 25)).heap.size) := by rw [heap_size_alloc]; exact Nat.le_succ_of_le HC8.out.ks.low
            clear ho8 hb8 t0 t1
            go_wp2_with (at_builtin; refine wpList_append_row rfl _ _ rfl _ w.heap.size S.length vs (.slice A8 L3.length c8) w8.heap.size rfl rfl rfl (HC8.out.row.alloc _) (heap_alloc_new _ _) HS24.out HLW.out ?_)
            intro A9 c9 w9 ho9 hg9 hl9
            obtain ⟨hc9, hb9⟩ := HC2.out.push HB8.out HO8.out ((Below.refl _ _).alloc (Nat.le_refl _) _) ho9 hg9 (heap_size_alloc _ _) (by simpa using hl9)
            have HC9 := Lib.hid hc9
            have HB9 := Lib.hid (HB2.out.trans hb9)
            clear hc9 hb9 ho9 hg9 hl9
            go_wp2
            go_roundw
            case rel => exact ⟨k + 1, _, _, _, L3, O3, S ++ [L3], by go_num, by omega, hll3, hol3, HC9.out, HB9.out, by rw [List.length_append, HSL.out]; rfl, HEQ3⟩
            case measure => simp [intOf]; omega
          have hq0 : ((L.length : Int) == 0) = false := by simp; intro e; rw [e] at h0; exact h0 rfl
          have hpos : 0 < L.length := by omega
          have hta := run_assert_item
          have HRC := Lib.hid (RC.begin HC2.out.ks (Nat.le_refl _) hll)
          by_cases h2' : q = 2
          · subst h2'
            obtain ⟨⟨x1, x2⟩, hy⟩ : ∃ y, g L 0 = y := ⟨_, rfl⟩
            have hst : stpI (2, a, kk, t) L = ((Hp.popD ltK L).dropLast, [(x1, x2)]) := by unfold stpI Hp.stp; rw [if_neg (by simp), if_neg (by simp), if_neg h0, if_pos rfl, hy]
            rw [hst] at HEQ3 hlen
            have hll3 : ((Hp.popD ltK L).dropLast).length ≤ l.length + (k + 1) := Nat.le_trans hlen.1 (by omega)
            have hol3 : (O ++ [(x1, x2)]).length ≤ k + 1 := by rw [List.length_append]; simp; omega
            have hc := pop_any (columns_HI (B := w.heap.size) (w0 := w1) (hb := hb) (k0 := vk) (t0 := vt) (N := L.length)) columns_HPop L [] w1 HRC.out hpos (Nat.lt_succ_self _)
            rw [hy] at hc
            unfold encI at hc
            have HC := Lib.hid hc
            clear hst hlen h5' h1' h0 hc hy
            go_wp2_with fail
            refine HC.out.mono ?_
            rintro e w2 ⟨rfl, hR2⟩
            clear HC
            obtain ⟨vk3, vt3, hc3, hb3⟩ := HC2.out.movedR hR2
            have HC3 := Lib.hid hc3
            have HB3 := Lib.hid (HB2.out.trans hb3)
            clear hR2 hc3 hb3 s0 s1 s2 s3
            have hz4 := heap_alloc_new w2 (.cells #[.int .i64 x1, .int .i64 x2] 36)
            have HZ4 := Lib.hid hz4
            have HL4 := Lib.hid (show w.heap.size ≤ (w2.alloc (.cells #[.int .i64 x1, .int .i64 x2] 36)).heap.size by have := HC3.out.ks.low; simp; omega)
            clear hz4
            go_wp2_with (at_builtin; refine wpList_append_item_at rfl _ _ rfl _ w.heap.size O (x1, x2) w2.heap.size rfl rfl (HC3.out.out.alloc _) HZ4.out HNO.out HL4.out ?_)
            intro A5 c5 w5 ho5 hg5 hl5
            obtain ⟨hc5, hb5⟩ := HC3.out.pushed ((Below.refl _ _).alloc (Nat.le_refl _) _) ho5 hg5 (heap_size_alloc _ _) (by simpa using hl5)
            have HC5 := Lib.hid hc5
            have HB5 := Lib.hid (HB3.out.trans hb5)
            clear hc5 hb5 ho5 hg5 hl5
            obtain ⟨L3, hL3⟩ : ∃ L3, L3 = (Hp.popD ltK L).dropLast := ⟨_, rfl⟩
            obtain ⟨O3, hO3⟩ : ∃ O3, O3 = O ++ [(x1, x2)] := ⟨_, rfl⟩
            rw [← hL3] at hll3 HEQ3 HC5
            rw [← hO3] at hol3 HEQ3 HC5
            have t0 := (CB.cells HC5.out.ks.box).1
            have t1 := (CB.cells HC5.out.ks.box).2.1
            have hzt := HC5.out.ks.lt
            clear hL3 hO3
            go_wp2_with fail
            refine (columns_all HC5.out.ks (by omega)).mono ?_
            rintro e w8 ⟨A8, c8, rfl, ho8, hb8⟩
            have HO8 := Lib.hid ho8
            have HB8 := Lib.hid hb8
            have HC8 := Lib.hid (HC5.out.new hb8)
            have HLW : Hid (w.heap.size ≤ (w8.alloc (.cells #[.slice A8 L3.length c8] 25)).heap.size) := by rw [heap_size_alloc]; exact Nat.le_succ_of_le HC8.out.ks.low
            clear ho8 hb8 t0 t1
            go_wp2_with (at_builtin; refine wpList_append_row rfl _ _ rfl _ w.heap.size S.length vs (.slice A8 L3.length c8) w8.heap.size rfl rfl rfl (HC8.out.row.alloc _) (heap_alloc_new _ _) HS24.out HLW.out ?_)
            intro A9 c9 w9 ho9 hg9 hl9
            obtain ⟨hc9, hb9⟩ := HC5.out.push HB8.out HO8.out ((Below.refl _ _).alloc (Nat.le_refl _) _) ho9 hg9 (heap_size_alloc _ _) (by simpa using hl9)
            have HC9 := Lib.hid hc9
            have HB9 := Lib.hid (HB5.out.trans hb9)
            clear hc9 hb9 ho9 hg9 hl9
            go_wp2
            go_roundw
            case rel => exact ⟨k + 1, _, _, _, L3, O3, S ++ [L3], by go_num, by omega, hll3, hol3, HC9.out, HB9.out, by rw [List.length_append, HSL.out]; rfl, HEQ3⟩
            case measure => simp [intOf]; omega
          have hk2 : (q == 2) = false := by simpa using h2'
          by_cases h3' : q = 3
          · subst h3'
            have hpl := Hp.plc_lt a hpos
            obtain ⟨p, hp⟩ : ∃ p, p = plc a L.length := ⟨_, rfl⟩
            rw [← hp] at hpl
            obtain ⟨⟨x1, x2⟩, hy⟩ : ∃ y, g L p = y := ⟨_, rfl⟩
            have hst : stpI (3, a, kk, t) L = ((Hp.rem ltK L p).dropLast, [(x1, x2)]) := by unfold stpI Hp.stp; rw [if_neg (by simp), if_neg (by simp), if_neg h0, if_neg (by simp), if_pos rfl, ← hp, hy]
            rw [hst] at HEQ3 hlen
            have hll3 : ((Hp.rem ltK L p).dropLast).length ≤ l.length + (k + 1) := Nat.le_trans hlen.1 (by omega)
            have hol3 : (O ++ [(x1, x2)]).length ≤ k + 1 := by rw [List.length_append]; simp; omega
            have hc := remove_any (columns_HI (B := w.heap.size) (w0 := w1) (hb := hb) (k0 := vk) (t0 := vt) (N := L.length)) columns_HPop L [] p w1 HRC.out hpl (Nat.lt_succ_self _)
            rw [hy] at hc
            unfold encI at hc
            have HC := Lib.hid hc
            have HPC := Lib.hid (fun W => place_any W a L.length hpos hll)
            rw [← hp] at HPC
            clear hst hlen h5' h1' h0 hc hy h2' hp hpl
            go_wp2_with fail
            refine (HPC.out _).mono ?_
            rintro e w' ⟨rfl, rfl⟩
            go_wp2_with fail
            refine HC.out.mono ?_
            rintro e w2 ⟨rfl, hR2⟩
            clear HC HPC
            obtain ⟨vk3, vt3, hc3, hb3⟩ := HC2.out.movedR hR2
            have HC3 := Lib.hid hc3
            have HB3 := Lib.hid (HB2.out.trans hb3)
            clear hR2 hc3 hb3 s0 s1 s2 s3
            have hz4 := heap_alloc_new w2 (.cells #[.int .i64 x1, .int .i64 x2] 36)
            have HZ4 := Lib.hid hz4
            have HL4 := Lib.hid (show w.heap.size ≤ (w2.alloc (.cells #[.int .i64 x1, .int .i64 x2] 36)).heap.size by have := HC3.out.ks.low; simp; omega)
            clear hz4
            go_wp2_with (at_builtin; refine wpList_append_item_at rfl _ _ rfl _ w.heap.size O (x1, x2) w2.heap.size rfl rfl (HC3.out.out.alloc _) HZ4.out HNO.out HL4.out ?_)
            intro A5 c5 w5 ho5 hg5 hl5
            obtain ⟨hc5, hb5⟩ := HC3.out.pushed ((Below.refl _ _).alloc (Nat.le_refl _) _) ho5 hg5 (heap_size_alloc _ _) (by simpa using hl5)
            have HC5 := Lib.hid hc5
            have HB5 := Lib.hid (HB3.out.trans hb5)
            clear hc5 hb5 ho5 hg5 hl5
            obtain ⟨L3, hL3⟩ : ∃ L3, L3 = (Hp.rem ltK L p).dropLast := ⟨_, rfl⟩
            obtain ⟨O3, hO3⟩ : ∃ O3, O3 = O ++ [(x1, x2)] := ⟨_, rfl⟩
            rw [← hL3] at hll3 HEQ3 HC5
            rw [← hO3] at hol3 HEQ3 HC5
            have t0 := (CB.cells HC5.out.ks.box).1
            have t1 := (CB.cells HC5.out.ks.box).2.1
            have hzt := HC5.out.ks.lt
            clear hL3 hO3
            go_wp2_with fail
            refine (columns_all HC5.out.ks (by omega)).mono ?_
            rintro e w8 ⟨A8, c8, rfl, ho8, hb8⟩
            have HO8 := Lib.hid ho8
            have HB8 := Lib.hid hb8
            have HC8 := Lib.hid (HC5.out.new hb8)
            have HLW : Hid (w.heap.size ≤ (w8.alloc (.cells #[.slice A8 L3.length c8] 25)).heap.size) := by rw [heap_size_alloc]; exact Nat.le_succ_of_le HC8.out.ks.low
            clear ho8 hb8 t0 t1
            go_wp2_with (at_builtin; refine wpList_append_row rfl _ _ rfl _ w.heap.size S.length vs (.slice A8 L3.length c8) w8.heap.size rfl rfl rfl (HC8.out.row.alloc _) (heap_alloc_new _ _) HS24.out HLW.out ?_)
            intro A9 c9 w9 ho9 hg9 hl9
            obtain ⟨hc9, hb9⟩ := HC5.out.push HB8.out HO8.out ((Below.refl _ _).alloc (Nat.le_refl _) _) ho9 hg9 (heap_size_alloc _ _) (by simpa using hl9)
            have HC9 := Lib.hid hc9
            have HB9 := Lib.hid (HB5.out.trans hb9)
            clear hc9 hb9 ho9 hg9 hl9
            go_wp2
            go_roundw
            case rel => exact ⟨k + 1, _, _, _, L3, O3, S ++ [L3], by go_num, by omega, hll3, hol3, HC9.out, HB9.out, by rw [List.length_append, HSL.out]; rfl, HEQ3⟩
            case measure => simp [intOf]; omega
          have hk3 : (q == 3) = false := by simpa using h3'
          by_cases h4' : q = 4
          · subst h4'
            have hpl := Hp.plc_lt a hpos
            obtain ⟨p, hp⟩ : ∃ p, p = plc a L.length := ⟨_, rfl⟩
            rw [← hp] at hpl
            have hst : stpI (4, a, kk, t) L = (Hp.fix ltK (L.set p (mkI kk t)) p, []) := by unfold stpI Hp.stp; rw [if_neg (by simp), if_neg (by simp), if_neg h0, if_neg (by simp), if_neg (by simp), if_pos rfl, ← hp]
            rw [hst] at HEQ3 hlen
            have hll3 : (Hp.fix ltK (L.set p (mkI kk t)) p).length ≤ l.length + (k + 1) := Nat.le_trans hlen.1 (by omega)
            rw [List.append_nil] at HEQ3
            have hol3 : O.length ≤ k + 1 := by omega
            have HPC := Lib.hid (fun W => place_any W a L.length hpos hll)
            rw [← hp] at HPC
            have hks := HC2.out.ks
            obtain ⟨gb, ck, hvk, hck, hgb⟩ := row_some hks.ks (by simpa using hpos)
            obtain ⟨tb, ct, hvt, hct, htb⟩ := row_some hks.ts (by simpa using hpos)
            have ci := hks.atK hvk p hpl
            have di := hks.atT hvt p hpl
            subst hvk
            subst hvt
            have hgf := hks.ks.frozenAt p
            have htf := hks.ts.frozenAt p
            obtain ⟨b0, b1, _⟩ := CB.cells hks.box
            have hgt : gb ≠ tb := fun e => hks.apart gb rfl (by rw [e]; rfl)
            have hgh : gb ≠ hb := fun e => own_ne hks.ks hks.box (by decide) (by rw [e]; rfl)
            have hth : tb ≠ hb := fun e => own_ne hks.ts hks.box (by decide) (by rw [e]; rfl)
            have hgs : gb ≠ sb := fun e => Nat.lt_irrefl sb (HGE.out sb (.inl (.inr (.inl (by rw [← e]; rfl)))))
            have hts : tb ≠ sb := fun e => Nat.lt_irrefl sb (HGE.out sb (.inl (.inr (.inr (by rw [← e]; rfl)))))
            rw [List.length_map] at b0 b1
            obtain ⟨k1, f1⟩ := hks.storedK (by simp) p kk
            obtain ⟨k2, f2⟩ := k1.storedT (by simp) p t
            have e1 : (L.map Prod.fst).set p kk = (L.set p (mkI kk t)).map Prod.fst := by simp [List.map_set, mkI]
            have e2 : (L.map Prod.snd).set p t = (L.set p (mkI kk t)).map Prod.snd := by simp [List.map_set, mkI]
            rw [e1, e2] at k2
            obtain ⟨hc6, hb6⟩ := HC2.out.moved k2 (f1.next f2 (fun _ _ e => e)) (Lies.refl _ _) (Lies.refl _ _)
            rw [List.length_map, List.length_map] at hc6
            have hpl2 : p < (L.set p (mkI kk t)).length := by simpa using hpl
            have HC6 := Lib.hid hc6
            have HB6 := Lib.hid (HB2.out.trans hb6)
            have hpi : (p : Int) < (L.length : Int) := by omega
            have hold : ∀ (W : World) (x u y : Nat) (v z : Value), x ≠ y → W.cell? ⟨y, u, none⟩ = some z → (W.setCell ⟨x, p, none⟩ v).cell? ⟨y, u, none⟩ = some z := fun W x u y v z hne h => (World.cell?_of_block (Below.heap_setCell W ⟨x, p, none⟩ v y (Ne.symm hne))).trans h
            have m0 := hold w1 gb 0 hb (.int .i64 kk) _ hgh b0
            have m1 := hold w1 gb 1 sb (.int .i64 kk) _ hgs s1
            have m2 := hold w1 gb 2 sb (.int .i64 kk) _ hgs s2
            have m3 := hold w1 gb 3 sb (.int .i64 kk) _ hgs s3
            have mb := hold w1 gb 1 hb (.int .i64 kk) _ hgh b1
            have md := hold w1 gb p tb (.int .i64 kk) _ hgt di
            have mf : (w1.setCell ⟨gb, p, none⟩ (.int .i64 kk)).frozen? ⟨tb, p, none⟩ = false := (World.frozen?_of_block (Below.heap_setCell w1 ⟨gb, p, none⟩ (.int .i64 kk) tb (Ne.symm hgt))).trans htf
            have hsz2 : w1.heap.size ≤ (w1.setCell ⟨gb, p, none⟩ (.int .i64 kk)).heap.size := by simp [World.setCell]
            clear hst hlen h5' h1' h0 h2' h3' hp hks k1 k2 f1 f2 e1 e2 hc6 hb6 HRC
            go_wp2_with fail
            go_region_held3 (fun w' => w'.cell? ⟨hb, 0, none⟩ = some (.slice (some ⟨gb, 0, none⟩) L.length ck) ∧ w'.cell? ⟨sb, 1, none⟩ = some (.int .i64 a) ∧ w'.cell? ⟨sb, 2, none⟩ = some (.int .i64 kk))
              (first
                | exact ⟨b0, s1, s2⟩
                | exact ⟨m0, m1, m2⟩
                | go_keep)
              (first
                | (go_at_call 44
                   ((with_reducible refine (HPC.out _).mono ?_)
                    rintro e w' ⟨rfl, rfl⟩)))
            clear b0 s0 s1 s2 s3 ci di hgf htf m0 m2 b1
            obtain ⟨W, hW⟩ : ∃ W, W = (w1.setCell ⟨gb, p, none⟩ (.int .i64 kk)).drew := ⟨_, rfl⟩
            rw [← hW]
            have i1 : W.cell? ⟨sb, 1, none⟩ = some (.int .i64 a) := by rw [hW]; exact m1
            have i3 : W.cell? ⟨sb, 3, none⟩ = some (.int .i64 t) := by rw [hW]; exact m3
            have ib : W.cell? ⟨hb, 1, none⟩ = some (.slice (some ⟨tb, 0, none⟩) L.length ct) := by rw [hW]; exact mb
            have id1 : W.cell? ⟨tb, p, none⟩ = some (.int .i64 (g L p).2) := by rw [hW]; exact md
            have idf : W.frozen? ⟨tb, p, none⟩ = false := by rw [hW]; exact mf
            have hsW : sb < W.heap.size := by rw [hW]; exact Nat.lt_of_lt_of_le hsb1 hsz2
            have hbW : hb < W.heap.size := by rw [hW]; exact Nat.lt_of_lt_of_le hzb hsz2
            have htW : tb < W.heap.size := by rw [hW]; exact Nat.lt_of_lt_of_le htb hsz2
            have n1 := hold W tb 1 sb (.int .i64 t) _ hts i1
            have n3 := hold W tb 3 sb (.int .i64 t) _ hts i3
            have nb := hold W tb 1 hb (.int .i64 t) _ hth ib
            have hsz3 : W.heap.size ≤ (W.setCell ⟨tb, p, none⟩ (.int .i64 t)).heap.size := by simp [World.setCell]
            have HC7 : Hid (CC w.heap.size (W.setCell ⟨tb, p, none⟩ (.int .i64 t)).drew hb (.slice (some ⟨gb, 0, none⟩) L.length ck) (.slice (some ⟨tb, 0, none⟩) L.length ct) u10 u9 (L.set p (mkI kk t)) O vs S) := by
              rw [hW]
              exact HC6.out.new (Below.refl _ _).drew.drew
            have HB7 : Hid (Below w.heap.size w (W.setCell ⟨tb, p, none⟩ (.int .i64 t)).drew) := by
              rw [hW]
              exact HB6.out.drew.drew
            clear hW m1 m3 mb md mf hsz2 HC6 HB6 hsb1 hzb htb hgb
            go_wp2_with fail
            go_region_held3 (fun w' => w'.cell? ⟨hb, 1, none⟩ = some (.slice (some ⟨tb, 0, none⟩) L.length ct) ∧ w'.cell? ⟨sb, 1, none⟩ = some (.int .i64 a) ∧ w'.cell? ⟨sb, 3, none⟩ = some (.int .i64 t))
              (first
                | exact ⟨ib, i1, i3⟩
                | exact ⟨nb, n1, n3⟩
                | go_keep)
              (first
                | (go_at_call 44
                   ((with_reducible refine (HPC.out _).mono ?_)
                    rintro e w' ⟨rfl, rfl⟩)))
            clear ib i1 i3 id1 idf n3 nb hold
            obtain ⟨V, hV⟩ : ∃ V, V = (W.setCell ⟨tb, p, none⟩ (.int .i64 t)).drew := ⟨_, rfl⟩
            rw [← hV] at HC7 HB7 ⊢
            have v1 : V.cell? ⟨sb, 1, none⟩ = some (.int .i64 a) := by rw [hV]; exact n1
            have hsV : sb < V.heap.size := by rw [hV]; exact Nat.lt_of_lt_of_le hsW hsz3
            have hbV : hb < V.heap.size := HC7.out.ks.lt
            have HRC7 := Lib.hid (RC.begin (N := L.length) HC7.out.ks (by simp) hll)
            clear hV n1 hsz3 hsW hbW htW
            go_wp2_with fail
            refine (HPC.out _).mono ?_
            rintro e w' ⟨rfl, rfl⟩
            go_wp2_with fail
            refine (fix_any (columns_HI (B := w.heap.size) (hb := hb) (N := L.length)) (L.set p (mkI kk t)) [] p _ HRC7.out hpl2 (Nat.le_refl _)).mono ?_
            rintro e w2 ⟨rfl, hR2⟩
            obtain ⟨vk3, vt3, hc3, hb3⟩ := HC7.out.movedR hR2
            have HC3 := Lib.hid hc3
            have HB3 := Lib.hid (HB7.out.trans hb3)
            clear hR2 hc3 hb3 v1 HC7 HB7 HRC7
            obtain ⟨L3, hL3⟩ : ∃ L3, L3 = Hp.fix ltK (L.set p (mkI kk t)) p := ⟨_, rfl⟩
            obtain ⟨O3, hO3⟩ : ∃ O3, O3 = O := ⟨_, rfl⟩
            rw [← hL3] at hll3 HEQ3 HC3
            rw [← hO3] at hol3 HEQ3 HC3
            have t0 := (CB.cells HC3.out.ks.box).1
            have t1 := (CB.cells HC3.out.ks.box).2.1
            have hzt := HC3.out.ks.lt
            clear hL3 hO3
            go_wp2_with fail
            refine (columns_all HC3.out.ks (by omega)).mono ?_
            rintro e w8 ⟨A8, c8, rfl, ho8, hb8⟩
            have HO8 := Lib.hid ho8
            have HB8 := Lib.hid hb8
            have HC8 := Lib.hid (HC3.out.new hb8)
            have HLW : Hid (w.heap.size ≤ (w8.alloc (.cells #[.slice A8 L3.length c8] 25)).heap.size) := by rw [heap_size_alloc]; exact Nat.le_succ_of_le HC8.out.ks.low
            clear ho8 hb8 t0 t1
            go_wp2_with (at_builtin; refine wpList_append_row rfl _ _ rfl _ w.heap.size S.length vs (.slice A8 L3.length c8) w8.heap.size rfl rfl rfl (HC8.out.row.alloc _) (heap_alloc_new _ _) HS24.out HLW.out ?_)
            intro A9 c9 w9 ho9 hg9 hl9
            obtain ⟨hc9, hb9⟩ := HC3.out.push HB8.out HO8.out ((Below.refl _ _).alloc (Nat.le_refl _) _) ho9 hg9 (heap_size_alloc _ _) (by simpa using hl9)
            have HC9 := Lib.hid hc9
            have HB9 := Lib.hid (HB3.out.trans hb9)
            clear hc9 hb9 ho9 hg9 hl9
            go_wp2
            go_roundw
            case rel => exact ⟨k + 1, _, _, _, L3, O3, S ++ [L3], by go_num, by omega, hll3, hol3, HC9.out, HB9.out, by rw [List.length_append, HSL.out]; rfl, HEQ3⟩
            case measure => simp [intOf]; omega
          have hk4 : (q == 4) = false := by simpa using h4'
          have hst : stpI (q, a, kk, t) L = (L, []) := by unfold stpI Hp.stp; rw [if_neg h5', if_neg h1', if_neg h0, if_neg h2', if_neg h3', if_neg h4']
          rw [hst] at HEQ3 hlen
          have hll3 : (L).length ≤ l.length + (k + 1) := Nat.le_trans hlen.1 (by omega)
          rw [List.append_nil] at HEQ3
          have hol3 : O.length ≤ k + 1 := by omega
          clear hst hlen h5' h1' h0 h2' h3' h4' hta HRC
          obtain ⟨L3, hL3⟩ : ∃ L3, L3 = L := ⟨_, rfl⟩
          obtain ⟨O3, hO3⟩ : ∃ O3, O3 = O := ⟨_, rfl⟩
          have hL0n : L.length = L3.length := by rw [hL3]
          rw [← hL3] at hll3 HEQ3 HC2
          rw [← hO3] at hol3 HEQ3 HC2
          have t0 := (CB.cells HC2.out.ks.box).1
          have t1 := (CB.cells HC2.out.ks.box).2.1
          have hzt := HC2.out.ks.lt
          clear hL3 hO3
          go_wp2_with fail
          refine (columns_all HC2.out.ks (by omega)).mono ?_
          rintro e w8 ⟨A8, c8, rfl, ho8, hb8⟩
          have HO8 := Lib.hid ho8
          have HB8 := Lib.hid hb8
          have HC8 := Lib.hid (HC2.out.new hb8)
          have HLW : Hid (w.heap.size ≤ (w8.alloc (.cells #[.slice A8 L3.length c8] 25)).heap.size) := by rw [heap_size_alloc]; exact Nat.le_succ_of_le HC8.out.ks.low
          clear ho8 hb8 t0 t1
          go_wp2_with (at_builtin; refine wpList_append_row rfl _ _ rfl _ w.heap.size S.length vs (.slice A8 L3.length c8) w8.heap.size rfl rfl rfl (HC8.out.row.alloc _) (heap_alloc_new _ _) HS24.out HLW.out ?_)
          intro A9 c9 w9 ho9 hg9 hl9
          obtain ⟨hc9, hb9⟩ := HC2.out.push HB8.out HO8.out ((Below.refl _ _).alloc (Nat.le_refl _) _) ho9 hg9 (heap_size_alloc _ _) (by simpa using hl9)
          have HC9 := Lib.hid hc9
          have HB9 := Lib.hid (HB2.out.trans hb9)
          clear hc9 hb9 ho9 hg9 hl9
          go_wp2
          go_roundw
          case rel => exact ⟨k + 1, _, _, _, L3, O3, S ++ [L3], by go_num, by omega, hll3, hol3, HC9.out, HB9.out, by rw [List.length_append, HSL.out]; rfl, HEQ3⟩
          case measure => simp [intOf]; omega
        · go_wp2
          have hkl : k = ss.length := by omega
          have hc := hci.out
          obtain ⟨e1, e2, e3⟩ := HEQ.out
          rw [hkl, List.take_of_length_le (Nat.le_refl _)] at e2 e3
          obtain ⟨A1, c1, e4⟩ := own_slice hc.row
          obtain ⟨A2, c2, e5⟩ := own_slice hc.out
          subst e4
          subst e5
          go_ret2
          rw [← HL0.out, ← e2, ← e3]
          exact ⟨A1, c1, A2, c2, _, rfl, hc.row, hc.ss.frm (Frm.refl (fun _ => False) _) (fun _ _ e => e.elim) (fun _ _ e => e.elim), hc.out, hbw⟩

theorem columns_law (w : World) (A As : Option Addr) (n c m cs : Nat) (l : List It) (ss : List St) (hl : n = l.length) (hm : m = ss.length) (hr : Rd w A (cls l)) (hrs : Rd w As (clsT ss)) (hn : l.length + ss.length + 1 ≤ 13194139537408) (hns : ss.length * 32 ≤ 140737488355328) :
    Calls Try.prog 25 #[.slice A n c, .slice As m cs] w (RunP w (Hp.init ltK l) ss) :=
  (columns_walk w A As n c m cs l ss hl hm hr hrs hn hns).mono runP_of
end Go.Proofs.Ytadacjndepkfeaa
