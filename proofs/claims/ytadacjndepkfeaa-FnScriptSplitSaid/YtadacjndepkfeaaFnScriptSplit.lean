/-
  FnScriptSplit returns true for every list of items, every script and every number. Condition: the reach of a slice that every statement bears.
-/
import Derived.Test.YtadacjndepkfeaaSplit
import Derived.Test.YtadacjndepkfeaaOpenS
namespace Go.Proofs.Ytadacjndepkfeaa.fnScriptSplit
open Go.ChangeShapes Go.WideShapes Go.ChangeAt Go.RowKit Go.Shelf Go.Deep Go.Joins
open Hp (g swp Ev St plc)

set_option maxHeartbeats 800000 in
set_option maxRecDepth 100000 in
theorem walk_out (w : World) (A : Option Addr) (c : Nat) (l : List It) (As : Option Addr) (cs : Nat) (ss : List St) (i : Int) (h : ¬ (0 ≤ i ∧ i ≤ ss.length)) :
    Calls Try.prog 13 #[.slice A l.length c, .slice As ss.length cs, .int .i64 i] w (Gives w (.bool true)) := by
  by_cases h0 : 0 ≤ i
  · have h1 : decide ((ss.length : Int) < i) = true := decide_eq_true (by omega)
    clear h
    go_enter Try.func13, Try.ntmps13
    go_wp2
    go_ret
    exact ⟨rfl, Below.refl _ _⟩
  · have h1 : i < 0 := by omega
    clear h h0
    go_enter Try.func13, Try.ntmps13
    go_wp2
    go_ret
    exact ⟨rfl, Below.refl _ _⟩

set_option maxHeartbeats 800000 in
set_option maxRecDepth 100000 in
theorem walk_in (w : World) (A : Option Addr) (c : Nat) (l : List It) (As : Option Addr) (cs : Nat) (ss : List St) (k : Nat) (hr : Rd w A (cls l)) (hn : l.length * 16 ≤ 140737488351232) (hrs : Rd w As (clsT ss)) (hns : ss.length * 32 ≤ 140737488351232) (hcs : ss.length ≤ cs) (hk : k ≤ ss.length) :
    Calls Try.prog 13 #[.slice A l.length c, .slice As ss.length cs, .int .i64 (k : Int)] w (Gives w (.bool true)) := by
  have hln : l.length + ss.length + 1 ≤ 13194139537408 := by omega
  have HR := Lib.hid hr
  have HRS := Lib.hid hrs
  clear hr hrs
  have hd1 : decide ((ss.length : Int) < (k : Int)) = false := decide_eq_false (by omega)
  obtain ⟨At, ht1, ht2⟩ := steps_to As ss.length cs k (by omega)
  obtain ⟨Af, hf1, hf2⟩ := steps_from As ss.length cs k hk hcs
  have hn1 : l.length * 16 ≤ 211106232598528 := m16 (by omega)
  have HT2 := Lib.hid ht2
  have HF2 := Lib.hid hf2
  have HT1 := Lib.hid ht1
  have HF1 := Lib.hid hf1
  clear ht1 ht2 hf1 hf2
  go_enter Try.func13, Try.ntmps13
  go_wp2_with fail
  refine (toItems_any _ A _ c l rfl (HR.out.below (Below.refl w.heap.size w) (Nat.le_refl _)) (m16 (by omega))).mono ?_
  rintro e w1 ⟨A1, c1, rfl, ho1, hb1⟩
  have HRD1 := Lib.hid (Rd.of_own ho1)
  have HB1 := Lib.hid (bnext (Below.refl w.heap.size w) hb1)
  clear ho1 hb1
  go_wp2_with fail
  refine (toStepS_any _ As _ cs ss rfl (HRS.out.below HB1.out (Nat.le_refl _)) (by omega)).mono ?_
  rintro e w2 ⟨A2, c2, rfl, ho2, hb2⟩
  have HRD2 := Lib.hid (Rd.of_own ho2)
  have HRI2 := Lib.hid (HRD1.out.below hb2 (Nat.le_refl _))
  have HB2 := Lib.hid (bnext HB1.out hb2)
  clear ho2 hb2
  go_wp2_with fail
  refine (run_law w2 A1 A2 _ c1 _ c2 l ss rfl rfl HRI2.out HRD2.out hln (by omega)).mono ?_
  rintro e w3 ⟨S, O, A3, c3, Ao, co, vs, hF, rfl, hrow, hss, hout, hb3⟩
  have HF := Lib.hid hF
  have hS1 : ((S.length : Int) == (ss.length : Int) + 1) = true := by rw [hF.len]; simp
  have hS2 : ((S.length : Int) != (ss.length : Int) + 1) = false := by rw [hF.len]; simp
  have hSL : S.length ≤ ss.length + 1 := Nat.le_of_eq hF.len
  have hSG : ss.length + 1 ≤ S.length := Nat.le_of_eq hF.len.symm
  have hOL : O.length ≤ ss.length := hF.outl
  have HROW := Lib.hid hrow
  have HSS := Lib.hid hss
  have HOUT := Lib.hid hout
  have HB3 := Lib.hid (bnext HB2.out hb3)
  clear hF hrow hss hout hb3
  go_wp2_with fail
  have ht1 := HT1.out
  obtain ⟨T1, hT1⟩ : ∃ T1, T1 = ss.take k := ⟨_, rfl⟩
  obtain ⟨T2, hT2⟩ : ∃ T2, T2 = ss.drop k := ⟨_, rfl⟩
  have htl : k = T1.length := by rw [hT1]; simp; omega
  have htl2 : ss.length - k = T2.length := by rw [hT2]; simp
  have hl1 : T1.length ≤ ss.length := by omega
  have hl2 : T2.length ≤ ss.length := by omega
  have hl12 : T1.length + T2.length ≤ ss.length := by omega
  have HRT1 := Lib.hid (fun (w' : World) (h : Rd w' As (clsT ss)) => (by rw [hT1]; exact HT2.out w' ss h : Rd w' At (clsT T1)))
  have HRT2 := Lib.hid (fun (w' : World) (h : Rd w' As (clsT ss)) => (by rw [hT2]; exact HF2.out w' ss rfl h : Rd w' Af (clsT T2)))
  have HE1 := Lib.hid hT1
  have HE2 := Lib.hid hT2
  have HTL := Lib.hid htl
  have HTL2 := Lib.hid htl2
  clear htl htl2 hT1 hT2 HT2 HF2
  go_region_held3 (fun _ => True)
    (exact trivial)
    (first
      | (go_at_call 16
         ((with_reducible refine (toItems_any _ A _ c l rfl ?_ hn1).mono ?_)
          · exact HR.out.below HB3.out.drew (Nat.le_refl _)
          rintro e w4 ⟨A4, c4, rfl, ho4, hb4⟩
          have HRD4 := Lib.hid (Rd.of_own ho4)
          have HB4 := Lib.hid (bnext (Below.refl w3.heap.size w3).drew hb4)
          clear ho4 hb4))
      | (go_at_call 17
         ((with_reducible refine (toStepS_any _ At _ cs T1 ?_ ?_ ?_).mono ?_)
          · exact HTL.out
          · exact HRT1.out _ (HRS.out.below (bnext HB3.out HB4.out) (Nat.le_refl _))
          · omega
          rintro e w5 ⟨A5, c5, rfl, ho5, hb5⟩
          have HRD5 := Lib.hid (Rd.of_own ho5)
          have HRI5 := Lib.hid (HRD4.out.below hb5 (Nat.le_refl _))
          have HB5 := Lib.hid (bnext HB4.out hb5)
          clear ho5 hb5))
      | (go_at_call 15
         ((with_reducible refine (run_lawQ _ A4 A5 _ c4 _ c5 l T1 rfl rfl ?_ ?_ ?_ ?_).mono ?_)
          · exact HRI5.out
          · exact HRD5.out
          · omega
          · omega
          rintro e w6 ⟨S2, O2, A6, c6, Ap, cp, vs2, hF2, rfl, hrow2, hss2, hout2, hb6, hcap⟩)))
  clear ht1
  have HF2 := Lib.hid hF2
  have hlk := HTL.out
  have hS5 : ((S2.length : Int) != (k : Int) + 1) = false := by rw [hF2.len, hlk]; simp
  have hS6 : k + 1 ≤ S2.length := by rw [hF2.len, ← hlk]; omega
  have hS7 : S2.length ≤ k + 1 := by rw [hF2.len, ← hlk]; omega
  have hO2 : O2.length ≤ T1.length := hF2.outl
  have hzk := hF2.size k (by omega)
  rw [Hp.length_init] at hzk
  obtain ⟨b7, o7, Ak, ck, hA7, hb7, hcell7, hrk⟩ := st_at hrow2 hss2 k (by omega)
  obtain ⟨X, hX⟩ : ∃ X, X = g S2 k := ⟨_, rfl⟩
  rw [← hX] at hcell7 hrk hzk
  subst hA7
  have HRR2 := Lib.hid (hrow2.take k)
  have HX := Lib.hid hX
  have HRK := Lib.hid hrk
  have HSS2 := Lib.hid hss2
  have HOUT2 := Lib.hid hout2
  have HB6 := Lib.hid (bnext HB5.out hb6)
  have hsz := hcap
  clear hlk hF2 hrow2 hss2 hout2 hb6 hX hrk
  go_wp2_with fail
  have hf1 := HF1.out
  have hkS : (k : Int) < (S2.length : Int) := by omega
  have hk0 : (0 : Int) ≤ (k : Int) := by omega
  go_region_held3 (fun w' => w'.cell? ⟨b7, o7 + k, none⟩ = some (.slice Ak X.length ck))
    (first
      | exact kb0
      | exact ka0
      | go_keep)
    (first
      | (go_at_call 17
         ((with_reducible refine (toStepS_any _ Af _ (cs - k) T2 ?_ ?_ ?_).mono ?_)
          · exact HTL2.out
          · exact HRT2.out _ (HRS.out.below (bnext HB3.out HB6.out).drew (Nat.le_refl _))
          · omega
          rintro e w7 ⟨A7, c7, rfl, ho7, hb7'⟩
          have ka0 := (hb7'.cell (p := ⟨b7, o7 + k, none⟩) hb7).trans hcell7
          have hz7 : b7 < w7.heap.size := Nat.lt_of_lt_of_le hb7 hb7'.size
          have HRD7 := Lib.hid (Rd.of_own ho7)
          have HB67 := Lib.hid (bnext (Below.refl w6.heap.size w6).drew hb7')
          clear ho7))
      | (go_at_call 27
         ((with_reducible refine (continue_lawQ _ Ak A7 _ ck _ c7 X T2 rfl rfl ?_ ?_ ?_ ?_).mono ?_)
          · exact HRK.out.below HB67.out (Nat.le_refl _)
          · exact HRD7.out
          · omega
          · omega
          rintro e w8 ⟨S3, O3, A8, c8, Aq, cq, vs3, hF3, rfl, hrow3, hss3, hout3, hb8, hcap3⟩
          have kb0 := (hb8.cell (p := ⟨b7, o7 + k, none⟩) hz7).trans ka0)))
  have hsp := split_fin (ss := ss) (L := Hp.init ltK l) hk HF.out (by rw [← HE1.out]; exact HF2.out) (by rw [← HE2.out, ← HX.out]; exact hF3)
  have hS3 : S3.length ≤ T2.length + 1 := Nat.le_of_eq hF3.len
  have hS3g : T2.length + 1 ≤ S3.length := Nat.le_of_eq hF3.len.symm
  have hO3 : O3.length ≤ T2.length := hF3.outl
  have HB68 := Lib.hid (bnext HB67.out hb8)
  have hlt2 : (vs2.take k).length = k := by rw [List.length_take, HSS2.out.1]; omega
  have hrs := HRR2.out.below HB68.out (Nat.le_refl _)
  have hst := HSS2.out.below HB68.out
  obtain ⟨A9, c9, w9, hrun9, ho9, hg9⟩ := run_append_rows w8 w8.heap.size (.slice none 0 0) 0 [] k (vs2.take k) (some ⟨b7, o7, none⟩) c6 (World.ownsRow_nil _ _ _ _) hrs hlt2.symm (hst.take k).one (m24 (by omega)) (Nat.le_refl _) 24
  rw [Nat.zero_add, List.nil_append] at ho9
  rw [Nat.zero_add] at hrun9
  have hb9 : Below w8.heap.size w8 w9 := (Below.refl _ _).grown hg9 (Nat.le_refl _) (by simp [Value.ownBlock])
  obtain ⟨A10, c10, w10, hrun10, ho10, hg10⟩ := run_append_rows w9 w8.heap.size (.slice A9 k c9) k (vs2.take k) S3.length vs3 A8 c8 ho9 (hrow3.below hb9 (Nat.le_refl _)) hss3.1.symm hss3.one (m24 (by omega)) hb9.size 24
  have hb10 : Below w8.heap.size w8 w10 := hb9.grown hg10 hb9.size (fun k' hk' => (ho9.lt k' hk').1)
  have hsm : SS (fun _ => False) w10 (vs2.take k ++ vs3) S := by
    rw [← hsp.1]
    exact ((hst.take k).append hss3).below hb10
  have hSl : k + S3.length = S.length := by rw [← hsp.1, List.length_append, List.length_take, Nat.min_eq_left (by omega)]
  have HSM := Lib.hid hsm
  have HRUN9 := Lib.hid hrun9
  have HRUN10 := Lib.hid hrun10
  have HRD10 := Lib.hid (Rd.of_own ho10)
  have HB10 := Lib.hid (bnext HB68.out hb10)
  have HB810 := Lib.hid hb10
  have HSL := Lib.hid hSl
  have HOO := Lib.hid hsp.2
  have HQ3 := Lib.hid hout3
  have HB36 := Lib.hid (bnext HB6.out HB10.out)
  have HZS : Hid (∀ j, j < S.length → (g S j).length ≤ 13194139537408) := by
    intro j hj
    have h1 := HF.out.size j (by have := HF.out.len; omega)
    rw [Hp.length_init] at h1
    omega
  clear hf1 hF3 hrow3 hss3 hout3 hb8 hsp hlt2 hrs hst hrun9 ho9 hg9 hb9 hrun10 ho10 hg10 hb10 hsm hSl ka0 kb0 hcell7 hkS hk0 hb7'
  go_wp2_with (first
    | (at_builtin; refine wpList_append_run (by rfl) (.const (.slice none 0 0)) (.tmp 59) 24 (by rfl) (.slice none 0 0) (.slice (some ⟨b7, o7, none⟩) k c6) _ _ (by rfl) (by rfl) HRUN9.out ?_)
    | (at_builtin; refine wpList_append_run (by rfl) (.tmp 60) (.tmp 61) 24 (by rfl) (.slice A9 k c9) (.slice A8 S3.length c8) _ _ (by rfl) (by rfl) HRUN10.out ?_))
  refine (qSameStates_eq _ A3 A10 _ _ c3 c10 S vs (vs2.take k ++ vs3) rfl HSL.out (HROW.out.below HB36.out (Nat.le_refl _)) HRD10.out (HSS.out.below HB36.out) HSM.out (by omega) HZS.out).mono ?_
  rintro e w11 ⟨rfl, hb11⟩
  have hb3 := bnext HB36.out hb11
  have hb6 := bnext HB10.out hb11
  have hb8 := bnext HB810.out hb11
  obtain ⟨A12, c12, w12, hrun12, ho12, hb12⟩ := run_copy_items w11 Ap cp O2 (HOUT2.out.below hb6 (Nat.le_refl _)) (m16 (by omega)) 25
  obtain ⟨A13, c13, w13, hrun13, ho13, hg13⟩ := run_append_its w12 w11.heap.size (.slice A12 O2.length c12) O2 O3 Aq cq ho12 ((HQ3.out.below hb8 (Nat.le_refl _)).below hb12 (Nat.le_refl _)) (m16 (by omega)) hb12.size 25
  have hb13 : Below w11.heap.size w11 w13 := hb12.grown hg13 hb12.size (fun k' hk' => (ho12.lt k' hk').1)
  have HRUN12 := Lib.hid hrun12
  have HRUN13 := Lib.hid hrun13
  have hrd := Rd.of_own ho13
  rw [HOO.out] at hrd
  have HRD13 := Lib.hid hrd
  have HOL := Lib.hid (show O2.length + O3.length = O.length by rw [← HOO.out, List.length_append])
  have HB13 := Lib.hid (bnext hb3 hb13)
  have HRO := Lib.hid ((Rd.of_own HOUT.out).below HB13.out (Nat.le_refl _))
  have hon : O.length * 16 ≤ 211106232598528 := m16 (by omega)
  clear hb3 hb6 hb8 hb11 hrun12 ho12 hb12 hrun13 ho13 hg13 hb13 hrd
  go_wp2_with (first
    | (at_builtin; refine wpList_append_run_g (by rfl) (.const (.slice none 0 0)) (.tmp 66) 25 (by rfl) (.slice none 0 0) (.slice Ap O2.length cp) _ _ (by rfl) (by rfl) HRUN12.out ?_)
    | (at_builtin; refine wpList_append_run_g (by rfl) (.tmp 67) (.tmp 68) 25 (by rfl) (.slice A12 O2.length c12) (.slice Aq O3.length cq) _ _ (by rfl) (by rfl) HRUN13.out ?_))
  refine (sameItems_eq _ Ao A13 _ _ co c13 O rfl HOL.out HRO.out HRD13.out hon).mono ?_
  rintro e w14 ⟨rfl, hb14⟩
  have HB14 := Lib.hid (bnext (bnext HB3.out HB13.out) hb14)
  clear hb14
  go_wp2
  go_ret
  exact ⟨rfl, HB14.out⟩

theorem walk (w : World) (A : Option Addr) (c : Nat) (l : List It) (As : Option Addr) (cs : Nat) (ss : List St) (i : Int) (hr : Rd w A (cls l)) (hn : l.length * 16 ≤ 140737488351232) (hrs : Rd w As (clsT ss)) (hns : ss.length * 32 ≤ 140737488351232) (hcs : ss.length ≤ cs) :
    Calls Try.prog 13 #[.slice A l.length c, .slice As ss.length cs, .int .i64 i] w (Gives w (.bool true)) := by
  by_cases h : 0 ≤ i ∧ i ≤ ss.length
  · obtain ⟨k, rfl⟩ : ∃ k : Nat, i = (k : Int) := ⟨i.toNat, by omega⟩
    exact walk_in w A c l As cs ss k hr hn hrs hns hcs (by omega)
  · exact walk_out w A c l As cs ss i h

theorem contract (H : Type) (enc : TypeId × Value → H) (W : World) (base : Nat) (args : Array Value) (ds gs : List (DataW H)) (before : List MemPlace)
    (hval : ∀ (j : Nat) t v, Try.f13.params[j]? = some t → args[j]? = some v → Value.okWide Try.prog W .any base t v)
    (hW : DataW.Whole enc Try.prog Try.f13.params.toList Rows.fnScriptSplitSpec.vars false W args.toList ds gs before)
    (hsz : (DataW.weightsEach Try.prog (Try.f13.params.toList ++ Rows.fnScriptSplitSpec.plain.varTypes Try.prog) (ds ++ gs)).all (· ≤ reachBytes) = true) :
    Calls Try.prog 13 args W fun e W' => ∃ v, e = .returned v ∧ Rows.fnScriptSplitSpec.post enc Try.prog Try.f13 false true false false W args v W' := by
  have hW' := hW
  obtain ⟨p, q, hA0, hV, rfl, _, _⟩ := hW
  have hA : DataW.TrodAll enc Try.prog W 0 (fun _ => true) true Try.f13.params.toList args.toList ds p := hA0
  rw [Try.params13] at hA hval hsz
  obtain ⟨v0, v1, v2, d0, d1, d2, p0, p1, p2, rfl, rfl, rfl, h0, h1, h2⟩ := trodAll_three hA
  obtain ⟨rfl, rfl⟩ := trodVars_none hV
  obtain ⟨A0, c0, l0, rfl, hr0, hn0⟩ := open_items (hval 0 22 v0 rfl rfl) h0 (fun elems spare he => by
    have := sized_slice hsz (j := 0) (t := 22) (e := 55) rfl (by rw [he]; rfl) Try.underlying22
    rw [bytes_lawItem] at this
    exact this)
  obtain ⟨A1, c1, l1, rfl, hr1, hn1, hc1⟩ := open_stepsC (hval 1 23 v1 rfl rfl) h1 (fun elems spare he => by
    have := sized_slice hsz (j := 1) (t := 23) (e := 34) rfl (by rw [he]; rfl) Try.underlying23
    rw [bytes_lawStep] at this
    exact this)
  obtain ⟨i2, rfl, rfl, rfl, wi2⟩ := open_int Try.underlying3 (hval 2 3 v2 rfl rfl) h2
  have hcall : Calls Try.prog 13 #[.slice A0 l0.length c0, .slice A1 l1.length c1, .int .i64 i2] W (Gives W (.bool true)) := walk W A0 c0 l0 A1 c1 l1 i2 hr0 hn0 hr1 hn1 hc1
  refine hcall.mono fun e W' ⟨he, hb⟩ => ⟨_, he, ?_⟩
  exact law_post hW' rfl rfl rfl rfl rfl (by rw [Try.params13]; exact of_decide_eq_true (by kernel_rfl)) hb

set_option maxRecDepth 100000 in
theorem lifted (os : Os) (started : os.Started) (H : Type) (enc : TypeId × Value → H) :
    ReturnsInHanded {} Try.checked os 13 .any (Rows.fnScriptSplitSpec.pre6 enc Try.prog Try.f13 Rows.fnScriptSplitRow.domain false) (Rows.fnScriptSplitSpec.post enc Try.prog Try.f13 false true false false) := by
  refine returnsInHanded_of_change_sized (C := Try.checked) own started (by kernel_rfl) Try.func13
    (ChangeSpec.witness6 (enc := enc) (C := Try.checked) false ⟨#[], #[.slice none 0 0, .slice none 0 0, .int .i64 0], []⟩ 8 (by kernel_rfl) (by kernel_rfl) (by kernel_rfl) (by kernel_rfl)) ?_
  intro W base args ds gs before hval hW _ hsz _
  exact contract H enc W base args ds gs before hval hW hsz

theorem proved : Rows.FnScriptSplitSaid :=
  OpenClaim.holds_of_wide 13 Try.f13 rfl rfl rfl rfl rfl rfl rfl ⟨rfl, rfl, rfl, rfl, rfl⟩ rfl rfl rfl rfl rfl (by kernel_rfl) Try.func13 (by kernel_rfl)
    (of_decide_eq_true (by kernel_rfl)) (by unfold Func.isWrapper; first | (rw [if_pos (by decide +kernel)]; kernel_rfl) | (rw [if_neg (by decide +kernel)]; exact ⟨rfl, rfl⟩))
    (fun os started H enc _ => lifted os started H enc)
end Go.Proofs.Ytadacjndepkfeaa.fnScriptSplit
