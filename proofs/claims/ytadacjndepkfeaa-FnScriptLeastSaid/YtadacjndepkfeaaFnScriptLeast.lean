/-
  FnScriptLeast returns true for every list of items and every script. Condition: the reach of a slice that every statement bears.
-/
import Derived.Test.YtadacjndepkfeaaQPlace
import Derived.Test.YtadacjndepkfeaaOpenS
namespace Go.Proofs.Ytadacjndepkfeaa.fnScriptLeast
open Go.ChangeShapes Go.WideShapes Go.ChangeAt Go.RowKit Go.Shelf Go.Deep Go.Joins
open Hp (g swp Ev St plc)

theorem outs_cut (L : List It) (ss : List St) (k : Nat) (hk : k < ss.length) : ∃ R, outsI L ss = outsI L (ss.take k) ++ ((stpI (g ss k) (afterI L (ss.take k))).2 ++ R) := by
  refine ⟨outsI (afterI L (ss.take (k + 1))) (ss.drop (k + 1)), ?_⟩
  have h := Hp.outs_append ltK mkI (ss.take (k + 1)) (ss.drop (k + 1)) L
  rw [List.take_append_drop] at h
  have h2 := outsI_succ ss L k hk
  rw [← List.append_assoc, ← h2]
  exact h
theorem least_none {L : List It} {ss : List St} {S : List (List It)} {O X : List It} {k m : Nat} {s : St} (h : RunF L ss S O) (hk : k < ss.length) (hX : X = g S k) (hs : g ss k = s) (hm : m = (outsI L (ss.take k)).length) (h0 : (stpI s X).2 = []) :
    m = (outsI L (ss.take (k + 1))).length := by
  rw [outsI_succ ss L k hk, hs, ← h.aft k (by omega), ← hX, h0, List.append_nil, hm]
theorem least_some {L : List It} {ss : List St} {S : List (List It)} {O X : List It} {k m : Nat} {s : St} {y : It} (h : RunF L ss S O) (hk : k < ss.length) (hX : X = g S k) (hs : g ss k = s) (hm : m = (outsI L (ss.take k)).length) (h0 : (stpI s X).2 = [y]) :
    m + 1 = (outsI L (ss.take (k + 1))).length ∧ m < O.length ∧ g O m = y := by
  have h1 : (stpI (g ss k) (afterI L (ss.take k))).2 = [y] := by rw [hs, ← h.aft k (by omega), ← hX, h0]
  obtain ⟨R, hR⟩ := outs_cut L ss k hk
  rw [h1] at hR
  refine ⟨?_, ?_, ?_⟩
  · rw [outsI_succ ss L k hk, h1, List.length_append, hm]; rfl
  · rw [h.eqO, hR, List.length_append, hm]; simp
  · rw [h.eqO, hR, hm]
    simp [g]

set_option maxHeartbeats 2000000 in
set_option maxRecDepth 100000 in
theorem walk (w : World) (A : Option Addr) (c : Nat) (l : List It) (As : Option Addr) (cs : Nat) (ss : List St) (hr : Rd w A (cls l)) (hn : l.length * 16 ≤ 140737488351232) (hrs : Rd w As (clsT ss)) (hns : ss.length * 32 ≤ 140737488351232) :
    Calls Try.prog 10 #[.slice A l.length c, .slice As ss.length cs] w (Gives w (.bool true)) := by
  have hln : l.length + ss.length + 1 ≤ 13194139537408 := by omega
  have HR := Lib.hid hr
  have HRS := Lib.hid hrs
  clear hr hrs
  go_enter Try.func10, Try.ntmps10
  go_wp2_with fail
  refine (toItems_any _ A _ c l rfl (HR.out.below (Below.refl w.heap.size w) (Nat.le_refl _)) (m16 (by omega))).mono ?_
  rintro e w1 ⟨A1, c1, rfl, ho1, hb1⟩
  have HRD1 := Lib.hid (Rd.of_own ho1)
  have HB1 := Lib.hid (bnext (Below.refl w.heap.size w) hb1)
  clear ho1 hb1
  go_wp2_with fail
  refine (toStepS_any _ As _ cs ss rfl (HRS.out.below HB1.out (Nat.le_refl _)) (by omega)).mono ?_
  rintro e w2 ⟨A2, c2, rfl, ho2, hb2⟩
  have HRD2 := Lib.hid (Rd.of_own ho2)
  have HRI2 := Lib.hid (HRD1.out.below hb2 (Nat.le_refl _))
  have HB2 := Lib.hid (bnext HB1.out hb2)
  clear ho2 hb2
  go_wp2_with fail
  refine (run_law w2 A1 A2 _ c1 _ c2 l ss rfl rfl HRI2.out HRD2.out hln (by omega)).mono ?_
  rintro e w3 ⟨S, O, A3, c3, Ao, co, vs, hF, rfl, hrow, hss, hout, hb3⟩
  have HF := Lib.hid hF
  have hS1 : ((S.length : Int) == (ss.length : Int) + 1) = true := by rw [hF.len]; simp
  have hS2 : ((S.length : Int) != (ss.length : Int) + 1) = false := by rw [hF.len]; simp
  have hSL : S.length ≤ ss.length + 1 := Nat.le_of_eq hF.len
  have hSG : ss.length + 1 ≤ S.length := Nat.le_of_eq hF.len.symm
  have hOL : O.length ≤ ss.length := hF.outl
  have HROW := Lib.hid hrow
  have HSS := Lib.hid hss
  have HOUT := Lib.hid hout
  have HB3 := Lib.hid (bnext HB2.out hb3)
  clear hF hrow hss hout hb3
  have hho : ∀ k, k ≤ ss.length → Hp.HO ltK (g S k) (g S k).length := HF.out.ho (by rw [Hp.length_init]; exact Hp.init_HO wo_ltK l)
  have HHO := Lib.hid hho
  clear hho
  go_wp2_with fail
  go_loopw [7, 28] (fun s7 s28 wr => ∃ (k m : Nat), s28 = .int .i64 (k : Int) ∧ k ≤ ss.length ∧ s7 = .int .i64 (m : Int) ∧ m ≤ k ∧ Below w3.heap.size w3 wr ∧ Hid (m = (outsI (Hp.init ltK l) (ss.take k)).length))
    (fun _ s28 _ => ss.length - (intOf s28).toNat)
  case atStart => exact ⟨0, 0, rfl, by omega, rfl, by omega, Below.refl _ _, rfl⟩
  case round =>
    obtain ⟨k, m, rfl, hk, rfl, hmk, hbw, HM⟩ := hrel
    have HBW := Lib.hid hbw
    have hsz := hbw.size
    clear hbw
    by_cases hlt : k < ss.length
    · obtain ⟨b, o, hAs, hbb, h1, h2, h3, h4⟩ := (HRS.out.below (bnext HB3.out HBW.out) (Nat.le_refl _)).atT k hlt
      subst hAs
      obtain ⟨bt, ot, Ak, ck, hA, hbt, hcell, hrk⟩ := st_at (HROW.out.below HBW.out (Nat.le_refl _)) (HSS.out.below HBW.out) k (by omega)
      subst hA
      obtain ⟨⟨q, a, kk, t⟩, hs⟩ : ∃ s, g ss k = s := ⟨_, rfl⟩
      obtain ⟨X, hX⟩ : ∃ X, X = g S k := ⟨_, rfl⟩
      have hXl : X.length ≤ l.length + ss.length := by
        have := HF.out.size k (by omega)
        rw [← hX] at this
        simpa using this
      have HGS := Lib.hid hs
      rw [hs] at h1 h2 h3 h4
      rw [← hX] at hcell hrk
      have HX := Lib.hid hX
      have HRK := Lib.hid hrk
      clear hs hX hrk
      have HB1 := Lib.hid (HBW.out.alloc hsz (.cells #[.int .i64 q, .int .i64 a, .int .i64 kk, .int .i64 t] 34))
      have HRX := Lib.hid (HRK.out.below ((Below.refl _ _).alloc (Nat.le_refl _) (.cells #[.int .i64 q, .int .i64 a, .int .i64 kk, .int .i64 t] 34)) (Nat.le_refl _))
      by_cases hX0 : X.length = 0
      · have hq : ((X.length : Int) == 0) = true := by rw [hX0]; rfl
        have HM1 := Lib.hid (least_none HF.out hlt HX.out HGS.out HM.out (by rw [stp_out, if_pos hX0]))
        clear hX0
        go_wp2
        go_roundw
        case rel => exact ⟨k + 1, m, by go_num, by omega, rfl, by omega, HB1.out, HM1⟩
        case measure => simp [intOf]; omega
      have hq : ((X.length : Int) == 0) = false := by simp; intro e; rw [e] at hX0; exact hX0 rfl
      have hpos : 0 < X.length := by omega
      by_cases hq2 : q = 2
      · subst hq2
        obtain ⟨hm1, hmO, hgO⟩ := least_some HF.out hlt HX.out HGS.out HM.out (y := g X 0) (by rw [stp_out, if_neg hX0, if_pos rfl])
        have HM1 := Lib.hid hm1
        have hle := (HHO.out k (by omega)).least wo_ltK
        rw [← HX.out] at hle
        obtain ⟨⟨y1, y2⟩, hy⟩ : ∃ y, g X 0 = y := ⟨_, rfl⟩
        rw [hy] at hgO hle
        have HLE := Lib.hid hle
        obtain ⟨bo, oo, hAo, hbo, co1, co2⟩ := (Rd.of_own HOUT.out).at_ m hmO
        rw [hgO] at co1
        have HCO := Lib.hid co1
        have hmi : (m : Int) < (O.length : Int) := by omega
        have hge : decide ((O.length : Int) ≤ (m : Int)) = false := decide_eq_false (by omega)
        clear hy hX0 hm1 hgO hle co1 co2
        subst hAo
        obtain ⟨W1, hW1⟩ : ∃ W1, W1 = wr.alloc (.cells #[.int .i64 2, .int .i64 a, .int .i64 kk, .int .i64 t] 34) := ⟨_, rfl⟩
        have hs0 : W1.cell? ⟨wr.heap.size, 0, none⟩ = some (.int .i64 2) := by rw [hW1]; simp
        have hzs : wr.heap.size < W1.heap.size := by rw [hW1]; simp
        have HBW1 := Lib.hid (show Below w3.heap.size w3 W1 by rw [hW1]; exact HB1.out)
        have HRKW := Lib.hid (show Rd W1 Ak (cls X) by rw [hW1]; exact HRX.out)
        go_wp2_with fail
        rw [← hW1]
        clear hW1 hcell h1 h2 h3 h4
        obtain ⟨sb, hsb⟩ : ∃ sb, sb = wr.heap.size := ⟨_, rfl⟩
        rw [← hsb] at hs0 hzs ⊢
        clear hsb
        go_loopw [58] (fun s58 wi => ∃ (j : Nat), s58 = .int .i64 (j : Int) ∧ j ≤ X.length ∧ Below W1.heap.size W1 wi) (fun s58 _ => X.length - (intOf s58).toNat)
        case atStart => exact ⟨0, rfl, by omega, Below.refl _ _⟩
        case round =>
          obtain ⟨j, rfl, hj, hbi⟩ := hrel
          have HBI := Lib.hid hbi
          have hsi := hbi.size
          have hs1 := (hbi.cell (p := ⟨sb, 0, none⟩) hzs).trans hs0
          have hzi : sb < wr.heap.size := Nat.lt_of_lt_of_le hzs hbi.size
          clear hbi
          by_cases hjl : j < X.length
          · obtain ⟨bx, ox, hAk, hbx, cx1, cx2⟩ := (HRKW.out.below HBI.out (Nat.le_refl _)).at_ j hjl
            subst hAk
            have hyj := HLE.out j hjl
            obtain ⟨⟨z1, z2⟩, hz⟩ : ∃ z, g X j = z := ⟨_, rfl⟩
            rw [hz] at cx1 cx2 hyj
            have hzy : y1 ≤ z1 := by simp [ltK] at hyj; omega
            have hzy' : decide (z1 < y1) = false := decide_eq_false (by omega)
            have hco := ((bnext HBW1.out HBI.out).cell (p := ⟨bo, oo + m * 2, none⟩) hbo).trans HCO.out
            have hboi : bo < wr.heap.size := Nat.lt_of_lt_of_le hbo (bnext HBW1.out HBI.out).size
            have HB7 := Lib.hid (HBI.out.alloc hsi (.cells #[.int .i64 z1, .int .i64 z2] 36))
            clear hz hyj
            go_wp2_with fail
            go_quiet (fail)
            go_wp2
            go_roundw
            case rel => exact ⟨j + 1, by go_num, by omega, below_drewN HB7.out _⟩
            case measure => simp [intOf]; omega
          · go_wp2
            go_roundw
            case rel => exact ⟨k + 1, m + 1, by go_num, by omega, by go_num, by omega, bnext HBW1.out HBI.out, HM1⟩
            case measure => simp [intOf]; omega
      have hk2 : (q == 2) = false := by simpa using hq2
      have hk2' : (q != 2) = true := by simpa using hq2
      by_cases hq3 : q = 3
      · subst hq3
        obtain ⟨hm1, hmO, hgO⟩ := least_some HF.out hlt HX.out HGS.out HM.out (y := g X (plc a X.length)) (by rw [stp_out, if_neg hX0, if_neg hq2, if_pos rfl])
        have HM1 := Lib.hid hm1
        have hge : decide ((O.length : Int) ≤ (m : Int)) = false := decide_eq_false (by omega)
        clear hX0 hm1 hgO hq2
        obtain ⟨W1, hW1⟩ : ∃ W1, W1 = wr.alloc (.cells #[.int .i64 3, .int .i64 a, .int .i64 kk, .int .i64 t] 34) := ⟨_, rfl⟩
        have hs0 : W1.cell? ⟨wr.heap.size, 0, none⟩ = some (.int .i64 3) := by rw [hW1]; simp
        have hzs : wr.heap.size < W1.heap.size := by rw [hW1]; simp
        have HBW1 := Lib.hid (show Below w3.heap.size w3 W1 by rw [hW1]; exact HB1.out)
        have HRKW := Lib.hid (show Rd W1 Ak (cls X) by rw [hW1]; exact HRX.out)
        go_wp2_with fail
        rw [← hW1]
        clear hW1 hcell h1 h2 h3 h4
        obtain ⟨sb, hsb⟩ : ∃ sb, sb = wr.heap.size := ⟨_, rfl⟩
        rw [← hsb] at hs0 hzs ⊢
        clear hsb
        go_loopw [58] (fun s58 wi => ∃ (j : Nat), s58 = .int .i64 (j : Int) ∧ j ≤ X.length ∧ Below W1.heap.size W1 wi) (fun s58 _ => X.length - (intOf s58).toNat)
        case atStart => exact ⟨0, rfl, by omega, Below.refl _ _⟩
        case round =>
          obtain ⟨j, rfl, hj, hbi⟩ := hrel
          have HBI := Lib.hid hbi
          have hsi := hbi.size
          have hs1 := (hbi.cell (p := ⟨sb, 0, none⟩) hzs).trans hs0
          have hzi : sb < wr.heap.size := Nat.lt_of_lt_of_le hzs hbi.size
          clear hbi
          by_cases hjl : j < X.length
          · obtain ⟨bx, ox, hAk, hbx, cx1, cx2⟩ := (HRKW.out.below HBI.out (Nat.le_refl _)).at_ j hjl
            subst hAk
            obtain ⟨⟨z1, z2⟩, hz⟩ : ∃ z, g X j = z := ⟨_, rfl⟩
            rw [hz] at cx1 cx2
            have HB7 := Lib.hid (HBI.out.alloc hsi (.cells #[.int .i64 z1, .int .i64 z2] 36))
            clear hz
            go_wp2_with fail
            go_quiet (fail)
            go_wp2
            go_roundw
            case rel => exact ⟨j + 1, by go_num, by omega, below_drewN HB7.out _⟩
            case measure => simp [intOf]; omega
          · go_wp2
            go_roundw
            case rel => exact ⟨k + 1, m + 1, by go_num, by omega, by go_num, by omega, bnext HBW1.out HBI.out, HM1⟩
            case measure => simp [intOf]; omega
      have hk3 : (q == 3) = false := by simpa using hq3
      have hk3' : (q != 3) = true := by simpa using hq3
      have HM1 := Lib.hid (least_none HF.out hlt HX.out HGS.out HM.out (by rw [stp_out, if_neg hX0, if_neg hq2, if_neg hq3]))
      clear hX0 hq2 hq3
      go_wp2
      go_roundw
      case rel => exact ⟨k + 1, m, by go_num, by omega, rfl, by omega, HB1.out, HM1⟩
      case measure => simp [intOf]; omega
    · have hkl : k = ss.length := by omega
      have hmO : m = O.length := by rw [HM.out, HF.out.eqO, hkl, List.take_of_length_le (Nat.le_refl _)]
      have hq : ((m : Int) == (O.length : Int)) = true := by rw [hmO]; simp
      clear hkl hmO
      go_wp2
      go_ret
      exact ⟨rfl, bnext HB3.out HBW.out⟩

theorem contract (H : Type) (enc : TypeId × Value → H) (W : World) (base : Nat) (args : Array Value) (ds gs : List (DataW H)) (before : List MemPlace)
    (hval : ∀ (j : Nat) t v, Try.f10.params[j]? = some t → args[j]? = some v → Value.okWide Try.prog W .any base t v)
    (hW : DataW.Whole enc Try.prog Try.f10.params.toList Rows.fnScriptLeastSpec.vars false W args.toList ds gs before)
    (hsz : (DataW.weightsEach Try.prog (Try.f10.params.toList ++ Rows.fnScriptLeastSpec.plain.varTypes Try.prog) (ds ++ gs)).all (· ≤ reachBytes) = true) :
    Calls Try.prog 10 args W fun e W' => ∃ v, e = .returned v ∧ Rows.fnScriptLeastSpec.post enc Try.prog Try.f10 false true false false W args v W' := by
  have hW' := hW
  obtain ⟨p, q, hA0, hV, rfl, _, _⟩ := hW
  have hA : DataW.TrodAll enc Try.prog W 0 (fun _ => true) true Try.f10.params.toList args.toList ds p := hA0
  rw [Try.params10] at hA hval hsz
  obtain ⟨v0, v1, d0, d1, p0, p1, rfl, rfl, rfl, h0, h1⟩ := trodAll_two hA
  obtain ⟨rfl, rfl⟩ := trodVars_none hV
  obtain ⟨A0, c0, l0, rfl, hr0, hn0⟩ := open_items (hval 0 22 v0 rfl rfl) h0 (fun elems spare he => by
    have := sized_slice hsz (j := 0) (t := 22) (e := 55) rfl (by rw [he]; rfl) Try.underlying22
    rw [bytes_lawItem] at this
    exact this)
  obtain ⟨A1, c1, l1, rfl, hr1, hn1⟩ := open_steps (hval 1 23 v1 rfl rfl) h1 (fun elems spare he => by
    have := sized_slice hsz (j := 1) (t := 23) (e := 34) rfl (by rw [he]; rfl) Try.underlying23
    rw [bytes_lawStep] at this
    exact this)
  have hcall : Calls Try.prog 10 #[.slice A0 l0.length c0, .slice A1 l1.length c1] W (Gives W (.bool true)) := walk W A0 c0 l0 A1 c1 l1 hr0 hn0 hr1 hn1
  refine hcall.mono fun e W' ⟨he, hb⟩ => ⟨_, he, ?_⟩
  exact law_post hW' rfl rfl rfl rfl rfl (by rw [Try.params10]; exact of_decide_eq_true (by kernel_rfl)) hb

set_option maxRecDepth 100000 in
theorem lifted (os : Os) (started : os.Started) (H : Type) (enc : TypeId × Value → H) :
    ReturnsInHanded {} Try.checked os 10 .any (Rows.fnScriptLeastSpec.pre6 enc Try.prog Try.f10 Rows.fnScriptLeastRow.domain false) (Rows.fnScriptLeastSpec.post enc Try.prog Try.f10 false true false false) := by
  refine returnsInHanded_of_change_sized (C := Try.checked) own started (by kernel_rfl) Try.func10
    (ChangeSpec.witness6 (enc := enc) (C := Try.checked) false ⟨#[], #[.slice none 0 0, .slice none 0 0], []⟩ 8 (by kernel_rfl) (by kernel_rfl) (by kernel_rfl) (by kernel_rfl)) ?_
  intro W base args ds gs before hval hW _ hsz _
  exact contract H enc W base args ds gs before hval hW hsz

theorem proved : Rows.FnScriptLeastSaid :=
  OpenClaim.holds_of_wide 10 Try.f10 rfl rfl rfl rfl rfl rfl rfl ⟨rfl, rfl, rfl, rfl, rfl⟩ rfl rfl rfl rfl rfl (by kernel_rfl) Try.func10 (by kernel_rfl)
    (of_decide_eq_true (by kernel_rfl)) (by unfold Func.isWrapper; first | (rw [if_pos (by decide +kernel)]; kernel_rfl) | (rw [if_neg (by decide +kernel)]; exact ⟨rfl, rfl⟩))
    (fun os started H enc _ => lifted os started H enc)
end Go.Proofs.Ytadacjndepkfeaa.fnScriptLeast
