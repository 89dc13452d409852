/-
  FnScriptSteps returns true for every list of items and every script. Condition: the reach of a slice that every statement bears.
-/
import Derived.Test.YtadacjndepkfeaaQPlace
import Derived.Test.YtadacjndepkfeaaOpenS
import Derived.Test.YtadacjndepkfeaaImplInit
import Derived.Test.YtadacjndepkfeaaImplPush
import Derived.Test.YtadacjndepkfeaaImplPop
import Derived.Test.YtadacjndepkfeaaImplRem
import Derived.Test.YtadacjndepkfeaaImplFix
namespace Go.Proofs.Ytadacjndepkfeaa.fnScriptSteps
open Go.ChangeShapes Go.WideShapes Go.ChangeAt Go.RowKit Go.Shelf Go.Deep Go.Joins
open Hp (g swp Ev St plc)

theorem st_init (s : St) (X : List It) (h : s.1 = 5) : (stpI s X).1 = Hp.init ltK X := by
  unfold stpI Hp.stp
  rw [if_pos h]
theorem st_push (s : St) (X : List It) (h : s.1 = 1) : (stpI s X).1 = Hp.push ltK X (s.2.2.1, s.2.2.2) := by
  unfold stpI Hp.stp
  rw [if_neg (by omega), if_pos h]
  rfl
theorem st_none (s : St) (X : List It) (h0 : X.length = 0) (h5 : ¬ s.1 = 5) (h : ¬ s.1 = 1) : (stpI s X).1 = X := by
  unfold stpI Hp.stp
  rw [if_neg h5, if_neg h, if_pos h0]
theorem st_pop (s : St) (X : List It) (h0 : 0 < X.length) (h : s.1 = 2) : (stpI s X).1 = (Hp.popD ltK X).dropLast := by
  unfold stpI Hp.stp
  rw [if_neg (by omega), if_neg (by omega), if_neg (by omega), if_pos h]
theorem st_rem (s : St) (X : List It) (h0 : 0 < X.length) (h : s.1 = 3) : (stpI s X).1 = (Hp.rem ltK X (plc s.2.1 X.length)).dropLast := by
  unfold stpI Hp.stp
  rw [if_neg (by omega), if_neg (by omega), if_neg (by omega), if_neg (by omega), if_pos h]
theorem st_fix (s : St) (X : List It) (h0 : 0 < X.length) (h : s.1 = 4) : (stpI s X).1 = Hp.fix ltK (X.set (plc s.2.1 X.length) (s.2.2.1, s.2.2.2)) (plc s.2.1 X.length) := by
  unfold stpI Hp.stp
  rw [if_neg (by omega), if_neg (by omega), if_neg (by omega), if_neg (by omega), if_neg (by omega), if_pos h]
  rfl
theorem st_other (s : St) (X : List It) (h5 : ¬ s.1 = 5) (h1 : ¬ s.1 = 1) (h2 : ¬ s.1 = 2) (h3 : ¬ s.1 = 3) (h4 : ¬ s.1 = 4) : (stpI s X).1 = X := by
  unfold stpI Hp.stp
  rw [if_neg h5, if_neg h1, if_neg h2, if_neg h3, if_neg h4]
  split <;> rfl

set_option maxHeartbeats 2000000 in
set_option maxRecDepth 100000 in
theorem walk (w : World) (A : Option Addr) (c : Nat) (l : List It) (As : Option Addr) (cs : Nat) (ss : List St) (hr : Rd w A (cls l)) (hn : l.length * 16 ≤ 140737488351232) (hrs : Rd w As (clsT ss)) (hns : ss.length * 32 ≤ 140737488351232) :
    Calls Try.prog 3 #[.slice A l.length c, .slice As ss.length cs] w (Gives w (.bool true)) := by
  have hln : l.length + ss.length + 1 ≤ 13194139537408 := by omega
  have HR := Lib.hid hr
  have HRS := Lib.hid hrs
  clear hr hrs
  go_enter Try.func3, Try.ntmps3
  go_wp2_with fail
  refine (toItems_any _ A _ c l rfl (HR.out.below (Below.refl w.heap.size w) (Nat.le_refl _)) (m16 (by omega))).mono ?_
  rintro e w1 ⟨A1, c1, rfl, ho1, hb1⟩
  have HRD1 := Lib.hid (Rd.of_own ho1)
  have HB1 := Lib.hid (bnext (Below.refl w.heap.size w) hb1)
  clear ho1 hb1
  go_wp2_with fail
  refine (toStepS_any _ As _ cs ss rfl (HRS.out.below HB1.out (Nat.le_refl _)) (by omega)).mono ?_
  rintro e w2 ⟨A2, c2, rfl, ho2, hb2⟩
  have HRD2 := Lib.hid (Rd.of_own ho2)
  have HRI2 := Lib.hid (HRD1.out.below hb2 (Nat.le_refl _))
  have HB2 := Lib.hid (bnext HB1.out hb2)
  clear ho2 hb2
  go_wp2_with fail
  refine (run_law w2 A1 A2 _ c1 _ c2 l ss rfl rfl HRI2.out HRD2.out hln (by omega)).mono ?_
  rintro e w3 ⟨S, O, A3, c3, Ao, co, vs, hF, rfl, hrow, hss, hout, hb3⟩
  have HF := Lib.hid hF
  have hS1 : ((S.length : Int) == (ss.length : Int) + 1) = true := by rw [hF.len]; simp
  have hS2 : ((S.length : Int) != (ss.length : Int) + 1) = false := by rw [hF.len]; simp
  have hSL : S.length ≤ ss.length + 1 := Nat.le_of_eq hF.len
  have hSG : ss.length + 1 ≤ S.length := Nat.le_of_eq hF.len.symm
  have hOL : O.length ≤ ss.length := hF.outl
  have HROW := Lib.hid hrow
  have HSS := Lib.hid hss
  have HOUT := Lib.hid hout
  have HB3 := Lib.hid (bnext HB2.out hb3)
  clear hF hrow hss hout hb3
  have hn0 : (g S 0).length ≤ l.length + ss.length := by have := HF.out.size 0 (by omega); rwa [Hp.length_init] at this
  obtain ⟨b3, o3, Ak0, ck0, hA0, hbt0, hcell0, hrk0⟩ := st_at HROW.out HSS.out 0 (by omega)
  subst hA0
  obtain ⟨X0, hX0⟩ : ∃ X0, X0 = g S 0 := ⟨_, rfl⟩
  rw [← hX0] at hcell0 hrk0 hn0
  have HRK0 := Lib.hid hrk0
  have hei : X0 = Hp.init ltK l := by rw [hX0, HF.out.zero]
  have hn1 : X0.length * 16 ≤ 211106232598528 := m16 (by omega)
  have hn2 : l.length * 16 ≤ 211106232598528 := m16 (by omega)
  have hci := fun (w' : World) (A' : Option Addr) (c' : Nat) (h : Rd w' A' (cls l)) => heapInit_any w' A' l.length c' l rfl h hn2
  rw [← hei] at hci
  have HCI := Lib.hid hci
  rw [Nat.add_zero] at hcell0
  clear hrk0 hX0 hei hci
  go_wp2_with fail
  have hS0 : 0 < S.length := by omega
  have hS0' : (0 : Int) < (S.length : Int) := by omega
  have hwrap : IntKind.i64.wrap ((ss.length : Int) + 1) = (ss.length : Int) + 1 := by simp [IntKind.wrap, IntKind.bits, IntKind.signed]; omega
  go_region_held3 (fun w' => w'.cell? ⟨b3, o3, none⟩ = some (.slice Ak0 X0.length ck0))
    (first
      | exact kc0
      | exact kb0
      | exact ka0
      | go_keep)
    (first
      | (go_at_call 16
         ((with_reducible refine (toItems_any _ A _ c l rfl ?_ hn2).mono ?_)
          · exact HR.out.below HB3.out.drew (Nat.le_refl _)
          rintro e w4 ⟨A4, c4, rfl, ho4, hb4⟩
          have ka0 := (hb4.cell (p := ⟨b3, o3, none⟩) hbt0).trans hcell0
          have hz4 : b3 < w4.heap.size := Nat.lt_of_lt_of_le hbt0 hb4.size
          have HRD4 := Lib.hid (Rd.of_own ho4)
          have HB4 := Lib.hid (bnext (Below.refl w3.heap.size w3).drew hb4)
          clear ho4))
      | (go_at_call 19
         ((with_reducible refine (HCI.out _ A4 c4 ?_).mono ?_)
          · exact HRD4.out
          rintro e w5 ⟨A5, c5, rfl, ho5, hb5⟩
          have kb0 := (hb5.cell (p := ⟨b3, o3, none⟩) hz4).trans ka0
          have hz5 : b3 < w5.heap.size := Nat.lt_of_lt_of_le hz4 hb5.size
          have HRD5 := Lib.hid (Rd.of_own ho5)
          have HB5 := Lib.hid (bnext HB4.out hb5)
          clear ho5))
      | (go_at_call 18
         ((with_reducible refine (sameItems_eq _ Ak0 A5 _ _ ck0 c5 X0 rfl rfl ?_ ?_ hn1).mono ?_)
          · exact HRK0.out.below HB5.out (Nat.le_refl _)
          · exact HRD5.out
          rintro e w6 ⟨rfl, hb6⟩
          have kc0 := (hb6.cell (p := ⟨b3, o3, none⟩) hz5).trans kb0)))
  have HB6 := Lib.hid (bnext HB5.out hb6)
  clear hb4 hb5 hb6 ka0 kb0 kc0 hcell0 hwrap hS0 hS0'
  go_wp2_with fail
  go_loopw [37] (fun s37 wr => ∃ (k : Nat), s37 = .int .i64 (k : Int) ∧ k ≤ ss.length ∧ Below w3.heap.size w3 wr) (fun s37 _ => ss.length - (intOf s37).toNat)
  case atStart => exact ⟨0, rfl, by omega, HB6.out⟩
  case round =>
    obtain ⟨k, rfl, hk, hbw⟩ := hrel
    have HBW := Lib.hid hbw
    have hsz := hbw.size
    clear hbw
    by_cases hlt : k < ss.length
    · obtain ⟨b, o, hAs, hbb, h1, h2, h3, h4⟩ := (HRS.out.below (bnext HB3.out HBW.out) (Nat.le_refl _)).atT k hlt
      subst hAs
      obtain ⟨bt, ot, Ak, ck, hA, hbt, hcell, hrk⟩ := st_at (HROW.out.below HBW.out (Nat.le_refl _)) (HSS.out.below HBW.out) k (by omega)
      injection hA with hA
      injection hA with hA hA'
      subst hA
      subst hA'
      obtain ⟨⟨q, a, kk, t⟩, hs⟩ : ∃ s, g ss k = s := ⟨_, rfl⟩
      obtain ⟨X, hX⟩ : ∃ X, X = g S k := ⟨_, rfl⟩
      have hXl : X.length ≤ l.length + ss.length := by
        have := HF.out.size k (by omega)
        rw [← hX] at this
        simpa using this
      have HGS := Lib.hid hs
      rw [hs] at h1 h2 h3 h4
      rw [← hX] at hcell hrk
      have HX := Lib.hid hX
      have HRK := Lib.hid hrk
      clear hs hX hrk
      have HNX := Lib.hid (HF.out.next k hlt)
      rw [HGS.out, ← HX.out] at HNX
      have hxn : X.length * 16 ≤ 211106232598528 := m16 (by omega)
      have hxn1 : (X.length + 1) * 16 ≤ 211106232598528 := m16 (by omega)
      have HB1 := Lib.hid ((HBW.out.alloc hsz (.cells #[.int .i64 q, .int .i64 a, .int .i64 kk, .int .i64 t] 34)).alloc (by simp; omega) (.cells #[.int .i64 kk, .int .i64 t] 36))
      have HRX := Lib.hid ((HRK.out.below ((Below.refl _ _).alloc (Nat.le_refl _) (.cells #[.int .i64 q, .int .i64 a, .int .i64 kk, .int .i64 t] 34)) (Nat.le_refl _)).below ((Below.refl _ _).alloc (Nat.le_refl _) (.cells #[.int .i64 kk, .int .i64 t] 36)) (Nat.le_refl _))
      by_cases hq5 : q = 5
      · subst hq5
        have HPM := Lib.hid (st_init (5, a, kk, t) X rfl)
        go_wp2_with fail
        refine (heapInit_any _ Ak _ ck X rfl HRX.out hxn).mono ?_
        obtain ⟨WL, hWL⟩ : ∃ WL, WL = Hp.init ltK X := ⟨_, rfl⟩
        rw [← hWL] at HPM ⊢
        clear hWL
        rintro e w6 ⟨A6, c6, rfl, ho6, hb6⟩
        have HRW6 := Lib.hid (Rd.of_own ho6)
        have HB6 := Lib.hid (bnext HB1.out hb6)
        clear ho6 hb6 h1 h2 h3 h4
        obtain ⟨b9, o9, Ay, cy, hA9, hb9, hcell9, hry⟩ := st_at (HROW.out.below HB6.out (Nat.le_refl _)) (HSS.out.below HB6.out) (k + 1) (by omega)
        injection hA9 with hA9
        injection hA9 with hA9 hA9'
        subst hA9
        subst hA9'
        obtain ⟨Y, hY⟩ : ∃ Y, Y = g S (k + 1) := ⟨_, rfl⟩
        rw [← hY] at hcell9 hry
        have HRY := Lib.hid hry
        have HYW := Lib.hid (show Y = WL by rw [hY, HNX.out]; exact HPM.out)
        have hn9 : Y.length * 16 ≤ 211106232598528 := m16 (by rw [hY]; have := HF.out.size (k + 1) (by omega); rw [Hp.length_init] at this; omega)
        clear hY hry hcell
        go_wp2_with fail
        refine (sameItems_eq _ Ay A6 _ _ cy c6 Y rfl (by rw [HYW.out]) HRY.out (by rw [HYW.out]; exact HRW6.out) hn9).mono ?_
        rintro e wz ⟨rfl, hbz⟩
        have HBZ := Lib.hid (bnext HB6.out hbz)
        clear hbz hcell9
        go_wp2
        go_roundw
        case rel => exact ⟨k + 1, by go_num, by omega, HBZ.out⟩
        case measure => simp [intOf]; omega
      have hk5 : (q == 5) = false := by simpa using hq5
      by_cases hq1 : q = 1
      · subst hq1
        have HPM := Lib.hid (show (stpI (1, a, kk, t) X).1 = Hp.push ltK X (kk, t) from st_push (1, a, kk, t) X rfl)
        go_wp2_with fail
        refine (heapPush_any _ Ak _ ck X (kk, t) rfl HRX.out hxn1).mono ?_
        obtain ⟨WL, hWL⟩ : ∃ WL, WL = Hp.push ltK X (kk, t) := ⟨_, rfl⟩
        rw [← hWL] at HPM ⊢
        clear hWL
        rintro e w6 ⟨A6, c6, rfl, ho6, hb6⟩
        have HRW6 := Lib.hid (Rd.of_own ho6)
        have HB6 := Lib.hid (bnext HB1.out hb6)
        clear ho6 hb6 h1 h2 h3 h4
        obtain ⟨b9, o9, Ay, cy, hA9, hb9, hcell9, hry⟩ := st_at (HROW.out.below HB6.out (Nat.le_refl _)) (HSS.out.below HB6.out) (k + 1) (by omega)
        injection hA9 with hA9
        injection hA9 with hA9 hA9'
        subst hA9
        subst hA9'
        obtain ⟨Y, hY⟩ : ∃ Y, Y = g S (k + 1) := ⟨_, rfl⟩
        rw [← hY] at hcell9 hry
        have HRY := Lib.hid hry
        have HYW := Lib.hid (show Y = WL by rw [hY, HNX.out]; exact HPM.out)
        have hn9 : Y.length * 16 ≤ 211106232598528 := m16 (by rw [hY]; have := HF.out.size (k + 1) (by omega); rw [Hp.length_init] at this; omega)
        clear hY hry hcell
        go_wp2_with fail
        refine (sameItems_eq _ Ay A6 _ _ cy c6 Y rfl (by rw [HYW.out]) HRY.out (by rw [HYW.out]; exact HRW6.out) hn9).mono ?_
        rintro e wz ⟨rfl, hbz⟩
        have HBZ := Lib.hid (bnext HB6.out hbz)
        clear hbz hcell9
        go_wp2
        go_roundw
        case rel => exact ⟨k + 1, by go_num, by omega, HBZ.out⟩
        case measure => simp [intOf]; omega
      have hk1 : (q == 1) = false := by simpa using hq1
      by_cases hX0 : X.length = 0
      · have hq : ((X.length : Int) == 0) = true := by rw [hX0]; rfl
        have HPM := Lib.hid (st_none (q, a, kk, t) X hX0 hq5 hq1)
        clear hX0 hq1 hq5
        obtain ⟨b9, o9, Ay, cy, hA9, hb9, hcell9, hry⟩ := st_at (HROW.out.below HBW.out (Nat.le_refl _)) (HSS.out.below HBW.out) (k + 1) (by omega)
        injection hA9 with hA9
        injection hA9 with hA9 hA9'
        subst hA9
        subst hA9'
        obtain ⟨Y, hY⟩ : ∃ Y, Y = g S (k + 1) := ⟨_, rfl⟩
        rw [← hY] at hcell9 hry
        have HRY := Lib.hid ((hry.below ((Below.refl _ _).alloc (Nat.le_refl _) (.cells #[.int .i64 q, .int .i64 a, .int .i64 kk, .int .i64 t] 34)) (Nat.le_refl _)).below ((Below.refl _ _).alloc (Nat.le_refl _) (.cells #[.int .i64 kk, .int .i64 t] 36)) (Nat.le_refl _))
        have HYW := Lib.hid (show Y = X by rw [hY, HNX.out]; exact HPM.out)
        have hn9 : Y.length * 16 ≤ 211106232598528 := m16 (by rw [hY]; have := HF.out.size (k + 1) (by omega); rw [Hp.length_init] at this; omega)
        clear hY hry
        go_wp2_with fail
        refine (sameItems_eq _ Ay Ak _ _ cy ck Y rfl (by rw [HYW.out]) HRY.out (by rw [HYW.out]; exact HRX.out) hn9).mono ?_
        rintro e wz ⟨rfl, hbz⟩
        have HBZ := Lib.hid (bnext HB1.out hbz)
        clear hbz hcell9
        go_wp2
        go_roundw
        case rel => exact ⟨k + 1, by go_num, by omega, HBZ.out⟩
        case measure => simp [intOf]; omega
      have hq : ((X.length : Int) == 0) = false := by simp; intro e; rw [e] at hX0; exact hX0 rfl
      have hpos : 0 < X.length := by omega
      clear hX0
      by_cases hq2 : q = 2
      · subst hq2
        have HPM := Lib.hid (st_pop (2, a, kk, t) X hpos rfl)
        go_wp2_with fail
        refine (heapPop_any _ Ak _ ck X rfl HRX.out hxn hpos).mono ?_
        obtain ⟨WL, hWL⟩ : ∃ WL, WL = (Hp.popD ltK X).dropLast := ⟨_, rfl⟩
        rw [← hWL] at HPM ⊢
        clear hWL
        rintro e w6 ⟨A6, c6, rfl, ho6, hb6⟩
        have HRW6 := Lib.hid (Rd.of_own ho6)
        have HB6 := Lib.hid (bnext HB1.out hb6)
        clear ho6 hb6 h1 h2 h3 h4
        obtain ⟨b9, o9, Ay, cy, hA9, hb9, hcell9, hry⟩ := st_at (HROW.out.below HB6.out (Nat.le_refl _)) (HSS.out.below HB6.out) (k + 1) (by omega)
        injection hA9 with hA9
        injection hA9 with hA9 hA9'
        subst hA9
        subst hA9'
        obtain ⟨Y, hY⟩ : ∃ Y, Y = g S (k + 1) := ⟨_, rfl⟩
        rw [← hY] at hcell9 hry
        have HRY := Lib.hid hry
        have HYW := Lib.hid (show Y = WL by rw [hY, HNX.out]; exact HPM.out)
        have hn9 : Y.length * 16 ≤ 211106232598528 := m16 (by rw [hY]; have := HF.out.size (k + 1) (by omega); rw [Hp.length_init] at this; omega)
        clear hY hry hcell
        go_wp2_with fail
        refine (sameItems_eq _ Ay A6 _ _ cy c6 Y rfl (by rw [HYW.out]) HRY.out (by rw [HYW.out]; exact HRW6.out) hn9).mono ?_
        rintro e wz ⟨rfl, hbz⟩
        have HBZ := Lib.hid (bnext HB6.out hbz)
        clear hbz hcell9
        go_wp2
        go_roundw
        case rel => exact ⟨k + 1, by go_num, by omega, HBZ.out⟩
        case measure => simp [intOf]; omega
      have hk2 : (q == 2) = false := by simpa using hq2
      obtain ⟨p, hp⟩ : ∃ p, p = plc a X.length := ⟨_, rfl⟩
      have hpl : p < X.length := by rw [hp]; exact Hp.plc_lt a hpos
      have HPC := Lib.hid (qPlace_let a X.length p hp hpos (by omega))
      have HPP := Lib.hid hp
      clear hp
      by_cases hq3 : q = 3
      · subst hq3
        have hpm := st_rem (3, a, kk, t) X hpos rfl
        rw [← HPP.out] at hpm
        have HPM := Lib.hid hpm
        clear hpm
        go_wp2_with fail
        refine (HPC.out _).mono ?_
        rintro e w' ⟨rfl, rfl⟩
        go_wp2_with fail
        refine (heapRemove_any _ Ak _ ck X p rfl HRX.out hxn hpl).mono ?_
        obtain ⟨WL, hWL⟩ : ∃ WL, WL = (Hp.rem ltK X p).dropLast := ⟨_, rfl⟩
        rw [← hWL] at HPM ⊢
        clear hWL
        rintro e w6 ⟨A6, c6, rfl, ho6, hb6⟩
        have HRW6 := Lib.hid (Rd.of_own ho6)
        have HB6 := Lib.hid (bnext HB1.out hb6)
        clear ho6 hb6 h1 h2 h3 h4
        obtain ⟨b9, o9, Ay, cy, hA9, hb9, hcell9, hry⟩ := st_at (HROW.out.below HB6.out (Nat.le_refl _)) (HSS.out.below HB6.out) (k + 1) (by omega)
        injection hA9 with hA9
        injection hA9 with hA9 hA9'
        subst hA9
        subst hA9'
        obtain ⟨Y, hY⟩ : ∃ Y, Y = g S (k + 1) := ⟨_, rfl⟩
        rw [← hY] at hcell9 hry
        have HRY := Lib.hid hry
        have HYW := Lib.hid (show Y = WL by rw [hY, HNX.out]; exact HPM.out)
        have hn9 : Y.length * 16 ≤ 211106232598528 := m16 (by rw [hY]; have := HF.out.size (k + 1) (by omega); rw [Hp.length_init] at this; omega)
        clear hY hry hcell
        go_wp2_with fail
        refine (sameItems_eq _ Ay A6 _ _ cy c6 Y rfl (by rw [HYW.out]) HRY.out (by rw [HYW.out]; exact HRW6.out) hn9).mono ?_
        rintro e wz ⟨rfl, hbz⟩
        have HBZ := Lib.hid (bnext HB6.out hbz)
        clear hbz hcell9
        go_wp2
        go_roundw
        case rel => exact ⟨k + 1, by go_num, by omega, HBZ.out⟩
        case measure => simp [intOf]; omega
      have hk3 : (q == 3) = false := by simpa using hq3
      by_cases hq4 : q = 4
      · subst hq4
        have hpm := (show (stpI (4, a, kk, t) X).1 = Hp.fix ltK (X.set (plc a X.length) (kk, t)) (plc a X.length) from st_fix (4, a, kk, t) X hpos rfl)
        rw [← HPP.out] at hpm
        obtain ⟨WL, hWL⟩ : ∃ WL, WL = Hp.fix ltK (X.set p (kk, t)) p := ⟨_, rfl⟩
        have hc6 := fun (w' : World) (h : Rd w' Ak (cls X)) => heapFix_any w' Ak X.length ck X p (kk, t) rfl h hxn hpl
        rw [← hWL] at hpm hc6
        have HPM := Lib.hid hpm
        have HC6 := Lib.hid hc6
        clear hpm hWL hc6
        go_wp2_with fail
        obtain ⟨W, hW⟩ : ∃ W, W = (wr.alloc (.cells #[.int .i64 4, .int .i64 a, .int .i64 kk, .int .i64 t] 34)).alloc (.cells #[.int .i64 kk, .int .i64 t] 36) := ⟨_, rfl⟩
        rw [← hW]
        have s1 : W.cell? ⟨wr.heap.size, 1, none⟩ = some (.int .i64 a) := by rw [hW, World.cell?_alloc_lt _ _ _ (by simp)]; simp
        have v1 : W.cell? ⟨wr.heap.size + 1, 0, none⟩ = some (.int .i64 kk) := by rw [hW]; simp
        have v2 : W.cell? ⟨wr.heap.size + 1, 1, none⟩ = some (.int .i64 t) := by rw [hW]; simp
        have hz1 : wr.heap.size < W.heap.size := by rw [hW]; simp; omega
        have hz2 : wr.heap.size + 1 < W.heap.size := by rw [hW]; simp
        have HBWW : Hid (Below w3.heap.size w3 W) := by rw [hW]; exact HB1.out
        have HRXW : Hid (Rd W Ak (cls X)) := by rw [hW]; exact HRX.out
        clear hW HB1 HRX
        obtain ⟨vb, hvb⟩ : ∃ vb, vb = wr.heap.size + 1 := ⟨_, rfl⟩
        rw [← hvb] at v1 v2 hz2 ⊢
        clear hvb
        obtain ⟨sb, hsb⟩ : ∃ sb, sb = wr.heap.size := ⟨_, rfl⟩
        rw [← hsb] at s1 hz1 ⊢
        clear hsb
        go_region_held3 (fun w' => w'.cell? ⟨sb, 1, none⟩ = some (.int .i64 a) ∧ w'.cell? ⟨vb, 0, none⟩ = some (.int .i64 kk) ∧ w'.cell? ⟨vb, 1, none⟩ = some (.int .i64 t))
          (first
            | exact ⟨ka1, ka4, ka5⟩
            | exact ⟨s1, v1, v2⟩
            | go_keep)
          (first
            | (go_at_call 23
               ((with_reducible refine (HPC.out _).mono ?_)
                rintro e w' ⟨rfl, rfl⟩))
            | (go_at_call 24
               ((with_reducible refine (HC6.out _ ?_).mono ?_)
                · exact HRXW.out
                rintro e w6 ⟨A6, c6, rfl, ho6, hb6⟩
                have ka1 := (hb6.cell (p := ⟨sb, 1, none⟩) hz1).trans s1
                have ka4 := (hb6.cell (p := ⟨vb, 0, none⟩) hz2).trans v1
                have ka5 := (hb6.cell (p := ⟨vb, 1, none⟩) hz2).trans v2)))
        have HRW7 := Lib.hid (Rd.of_own ho6)
        have HB7 := Lib.hid (bnext HBWW.out.drew hb6)
        clear ho6 hb6 h1 h2 h3 h4 ka1 ka4 ka5 s1 v1 v2
        obtain ⟨b9, o9, Ay, cy, hA9, hb9, hcell9, hry⟩ := st_at (HROW.out.below HB7.out (Nat.le_refl _)) (HSS.out.below HB7.out) (k + 1) (by omega)
        injection hA9 with hA9
        injection hA9 with hA9 hA9'
        subst hA9
        subst hA9'
        obtain ⟨Y, hY⟩ : ∃ Y, Y = g S (k + 1) := ⟨_, rfl⟩
        rw [← hY] at hcell9 hry
        have HRY := Lib.hid hry
        have HYW := Lib.hid (show Y = WL by rw [hY, HNX.out]; exact HPM.out)
        have hn9 : Y.length * 16 ≤ 211106232598528 := m16 (by rw [hY]; have := HF.out.size (k + 1) (by omega); rw [Hp.length_init] at this; omega)
        clear hY hry hcell
        go_wp2_with fail
        refine (sameItems_eq _ Ay A6 _ _ cy c6 Y rfl (by rw [HYW.out]) HRY.out (by rw [HYW.out]; exact HRW7.out) hn9).mono ?_
        rintro e wz ⟨rfl, hbz⟩
        have HBZ := Lib.hid (bnext HB7.out hbz)
        clear hbz hcell9
        go_wp2
        go_roundw
        case rel => exact ⟨k + 1, by go_num, by omega, HBZ.out⟩
        case measure => simp [intOf]; omega
      have hk4 : (q == 4) = false := by simpa using hq4
      have HPM := Lib.hid (st_other (q, a, kk, t) X hq5 hq1 hq2 hq3 hq4)
      clear hq1 hq2 hq3 hq4 hq5
      obtain ⟨b9, o9, Ay, cy, hA9, hb9, hcell9, hry⟩ := st_at (HROW.out.below HBW.out (Nat.le_refl _)) (HSS.out.below HBW.out) (k + 1) (by omega)
      injection hA9 with hA9
      injection hA9 with hA9 hA9'
      subst hA9
      subst hA9'
      obtain ⟨Y, hY⟩ : ∃ Y, Y = g S (k + 1) := ⟨_, rfl⟩
      rw [← hY] at hcell9 hry
      have HRY := Lib.hid ((hry.below ((Below.refl _ _).alloc (Nat.le_refl _) (.cells #[.int .i64 q, .int .i64 a, .int .i64 kk, .int .i64 t] 34)) (Nat.le_refl _)).below ((Below.refl _ _).alloc (Nat.le_refl _) (.cells #[.int .i64 kk, .int .i64 t] 36)) (Nat.le_refl _))
      have HYW := Lib.hid (show Y = X by rw [hY, HNX.out]; exact HPM.out)
      have hn9 : Y.length * 16 ≤ 211106232598528 := m16 (by rw [hY]; have := HF.out.size (k + 1) (by omega); rw [Hp.length_init] at this; omega)
      clear hY hry
      go_wp2_with fail
      refine (sameItems_eq _ Ay Ak _ _ cy ck Y rfl (by rw [HYW.out]) HRY.out (by rw [HYW.out]; exact HRX.out) hn9).mono ?_
      rintro e wz ⟨rfl, hbz⟩
      have HBZ := Lib.hid (bnext HB1.out hbz)
      clear hbz hcell9
      go_wp2
      go_roundw
      case rel => exact ⟨k + 1, by go_num, by omega, HBZ.out⟩
      case measure => simp [intOf]; omega
    · go_wp2
      go_ret
      exact ⟨rfl, bnext HB3.out HBW.out⟩

theorem contract (H : Type) (enc : TypeId × Value → H) (W : World) (base : Nat) (args : Array Value) (ds gs : List (DataW H)) (before : List MemPlace)
    (hval : ∀ (j : Nat) t v, Try.f3.params[j]? = some t → args[j]? = some v → Value.okWide Try.prog W .any base t v)
    (hW : DataW.Whole enc Try.prog Try.f3.params.toList Rows.fnScriptStepsSpec.vars false W args.toList ds gs before)
    (hsz : (DataW.weightsEach Try.prog (Try.f3.params.toList ++ Rows.fnScriptStepsSpec.plain.varTypes Try.prog) (ds ++ gs)).all (· ≤ reachBytes) = true) :
    Calls Try.prog 3 args W fun e W' => ∃ v, e = .returned v ∧ Rows.fnScriptStepsSpec.post enc Try.prog Try.f3 false true false false W args v W' := by
  have hW' := hW
  obtain ⟨p, q, hA0, hV, rfl, _, _⟩ := hW
  have hA : DataW.TrodAll enc Try.prog W 0 (fun _ => true) true Try.f3.params.toList args.toList ds p := hA0
  rw [Try.params3] at hA hval hsz
  obtain ⟨v0, v1, d0, d1, p0, p1, rfl, rfl, rfl, h0, h1⟩ := trodAll_two hA
  obtain ⟨rfl, rfl⟩ := trodVars_none hV
  obtain ⟨A0, c0, l0, rfl, hr0, hn0⟩ := open_items (hval 0 22 v0 rfl rfl) h0 (fun elems spare he => by
    have := sized_slice hsz (j := 0) (t := 22) (e := 55) rfl (by rw [he]; rfl) Try.underlying22
    rw [bytes_lawItem] at this
    exact this)
  obtain ⟨A1, c1, l1, rfl, hr1, hn1⟩ := open_steps (hval 1 23 v1 rfl rfl) h1 (fun elems spare he => by
    have := sized_slice hsz (j := 1) (t := 23) (e := 34) rfl (by rw [he]; rfl) Try.underlying23
    rw [bytes_lawStep] at this
    exact this)
  have hcall : Calls Try.prog 3 #[.slice A0 l0.length c0, .slice A1 l1.length c1] W (Gives W (.bool true)) := walk W A0 c0 l0 A1 c1 l1 hr0 hn0 hr1 hn1
  refine hcall.mono fun e W' ⟨he, hb⟩ => ⟨_, he, ?_⟩
  exact law_post hW' rfl rfl rfl rfl rfl (by rw [Try.params3]; exact of_decide_eq_true (by kernel_rfl)) hb

set_option maxRecDepth 100000 in
theorem lifted (os : Os) (started : os.Started) (H : Type) (enc : TypeId × Value → H) :
    ReturnsInHanded {} Try.checked os 3 .any (Rows.fnScriptStepsSpec.pre6 enc Try.prog Try.f3 Rows.fnScriptStepsRow.domain false) (Rows.fnScriptStepsSpec.post enc Try.prog Try.f3 false true false false) := by
  refine returnsInHanded_of_change_sized (C := Try.checked) own started (by kernel_rfl) Try.func3
    (ChangeSpec.witness6 (enc := enc) (C := Try.checked) false ⟨#[], #[.slice none 0 0, .slice none 0 0], []⟩ 8 (by kernel_rfl) (by kernel_rfl) (by kernel_rfl) (by kernel_rfl)) ?_
  intro W base args ds gs before hval hW _ hsz _
  exact contract H enc W base args ds gs before hval hW hsz

theorem proved : Rows.FnScriptStepsSaid :=
  OpenClaim.holds_of_wide 3 Try.f3 rfl rfl rfl rfl rfl rfl rfl ⟨rfl, rfl, rfl, rfl, rfl⟩ rfl rfl rfl rfl rfl (by kernel_rfl) Try.func3 (by kernel_rfl)
    (of_decide_eq_true (by kernel_rfl)) (by unfold Func.isWrapper; first | (rw [if_pos (by decide +kernel)]; kernel_rfl) | (rw [if_neg (by decide +kernel)]; exact ⟨rfl, rfl⟩))
    (fun os started H enc _ => lifted os started H enc)
end Go.Proofs.Ytadacjndepkfeaa.fnScriptSteps
