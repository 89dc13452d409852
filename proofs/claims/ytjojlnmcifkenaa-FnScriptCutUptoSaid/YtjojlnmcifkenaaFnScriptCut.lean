/-
  FnScriptCut returns true for all lists of numbers and any two scripts. Condition: the reach of a slice and the bound on the bulk that the statement bears.
-/
import Derived.Test.YtjojlnmcifkenaaThen
import Derived.Test.YtjojlnmcifkenaaOpenU
namespace Go.Proofs.Ytjojlnmcifkenaa.fnScriptCut
open Go.ChangeShapes Go.WideShapes Go.ChangeAt Go.RowKit Go.Shelf Go.Deep Go.Joins
open Hp (g swp Ev St plc)

set_option maxHeartbeats 2000000 in
set_option maxRecDepth 100000 in
theorem walk (w : World) (A : Option Addr) (c : Nat) (x : List Int) (As : Option Addr) (cs : Nat) (ss : List St) (At : Option Addr) (ct : Nat) (tt : List St) (hr : Rd w A (clsN x)) (_hn : x.length * 8 ≤ 140737488351232) (hu : x.length ≤ 1048576) (hrs : Rd w As (clsT ss)) (_hns : ss.length * 32 ≤ 140737488351232) (hus : ss.length ≤ 1048576) (hrt : Rd w At (clsT tt)) (_hnt : tt.length * 32 ≤ 140737488351232) (hut : tt.length ≤ 1048576) :
    Calls Try.prog 5 #[.slice A x.length c, .slice As ss.length cs, .slice At tt.length ct] w (Gives w (.bool true)) := by
  have HR := Lib.hid hr
  have HRS := Lib.hid hrs
  have HRT := Lib.hid hrt
  clear hr hrs hrt
  go_enter Try.func5, Try.ntmps5
  go_wp2_with fail
  refine (toStepS_any _ As _ cs ss rfl HRS.out (by omega)).mono ?_
  rintro e w1 ⟨A1, c1, rfl, ho1, hb1⟩
  have HO1 := Lib.hid (Rd.of_own ho1)
  have HB1 := Lib.hid hb1
  clear ho1 hb1
  go_wp2_with fail
  refine (toStepS_any _ At _ ct tt rfl (HRT.out.below HB1.out (Nat.le_refl _)) (by omega)).mono ?_
  rintro e w2 ⟨A2, c2, rfl, ho2, hb2⟩
  have HO1b := Lib.hid (HO1.out.below hb2 (Nat.le_refl _))
  have HO2 := Lib.hid (Rd.of_own ho2)
  have HB2 := Lib.hid (bnext HB1.out hb2)
  clear ho2 hb2 HO1 HB1
  go_wp2_with fail
  refine (then_any w2 A1 A2 _ c1 _ c2 ss tt rfl rfl HO1b.out HO2.out (by omega)).mono ?_
  rintro e w3 ⟨A3, c3, rfl, ho3, hb3⟩
  obtain ⟨J, hJ⟩ : ∃ J, J = ss ++ tt := ⟨_, rfl⟩
  rw [← hJ] at ho3 ⊢
  have hJl : J.length ≤ ss.length + tt.length := by rw [hJ]; simp
  have HO3 := Lib.hid (Rd.of_own ho3)
  have HB3 := Lib.hid (bnext HB2.out hb3)
  have HJ := Lib.hid hJ
  clear ho3 hb3 hJ HO1b HO2 HB2
  go_wp2_with fail
  refine (script_law w3 A A3 _ c _ c3 x J rfl rfl (HR.out.below HB3.out (Nat.le_refl _)) HO3.out (by omega)).mono ?_
  rintro e w4 ⟨a, b, A4, c4, A5, c5, ⟨ea, eb⟩, rfl, h1, h2, h3, h4⟩
  have hln2 := outA_length J (Hp.srt x)
  rw [← ea, ← eb, Hp.length_srt] at hln2
  obtain ⟨hal, hbl⟩ := hln2
  have HEA := Lib.hid ea
  have HEB := Lib.hid eb
  have HRA := Lib.hid (Rd.of_own h1)
  have HRB := Lib.hid (Rd.of_own h2)
  have HB4 := Lib.hid (bnext HB3.out h4)
  clear ea eb h1 h2 h3 h4 HO3 HB3
  go_wp2_with fail
  refine (toStepS_any _ As _ cs ss rfl (HRS.out.below HB4.out (Nat.le_refl _)) (by omega)).mono ?_
  rintro e w5 ⟨A6, c6, rfl, ho5, hb5⟩
  have HO5 := Lib.hid (Rd.of_own ho5)
  have HB5 := Lib.hid (bnext HB4.out hb5)
  have HB45 := Lib.hid hb5
  clear ho5 hb5
  go_wp2_with fail
  refine (script_law w5 A A6 _ c _ c6 x ss rfl rfl (HR.out.below HB5.out (Nat.le_refl _)) HO5.out (by omega)).mono ?_
  rintro e w6 ⟨a1, b1, A7, c7, A8, c8, ⟨ea, eb⟩, rfl, h1, h2, h3, h4⟩
  have hln2 := outA_length ss (Hp.srt x)
  rw [← ea, ← eb, Hp.length_srt] at hln2
  obtain ⟨hal1, hbl1⟩ := hln2
  have HS1 := Lib.hid (show Hp.srt b1 = b1 from Hp.srt_sorted (by rw [eb]; exact Hp.aftA_sorted ss _ (Hp.sorted_srt x)))
  have HEA1 := Lib.hid ea
  have HEB1 := Lib.hid eb
  have HRA1 := Lib.hid (Rd.of_own h1)
  have HRB1 := Lib.hid (Rd.of_own h2)
  have HB6 := Lib.hid (bnext HB5.out h4)
  have HB46 := Lib.hid (bnext HB45.out h4)
  clear ea eb h1 h2 h3 h4 HO5 HB5 HB45
  go_wp2_with fail
  refine (toStepS_any _ At _ ct tt rfl (HRT.out.below HB6.out (Nat.le_refl _)) (by omega)).mono ?_
  rintro e w7 ⟨A9, c9, rfl, ho7, hb7⟩
  have HO7 := Lib.hid (Rd.of_own ho7)
  have HB67 := Lib.hid hb7
  clear ho7 hb7
  go_wp2_with fail
  refine (script_law w7 A8 A9 _ c8 _ c9 b1 tt rfl rfl (HRB1.out.below HB67.out (Nat.le_refl _)) HO7.out (by omega)).mono ?_
  rintro e w8 ⟨a2, b2, A10, c10, A11, c11, ⟨ea, eb⟩, rfl, h1, h2, h3, h4⟩
  rw [HS1.out] at ea eb
  have hln2 := outA_length tt b1
  rw [← ea, ← eb] at hln2
  obtain ⟨hal2, hbl2⟩ := hln2
  have hA12 : a = a1 ++ a2 := by rw [HEA.out, HEA1.out, ea, HEB1.out, HJ.out, Hp.outA_append]
  have hB12 : b = b2 := by rw [HEB.out, eb, HEB1.out, HJ.out, Hp.aftA_append]
  have HAA := Lib.hid hA12
  subst hB12
  have HRA2 := Lib.hid (Rd.of_own h1)
  have HRB2 := Lib.hid (Rd.of_own h2)
  have HB68 := Lib.hid (bnext HB67.out h4)
  have HB48 := Lib.hid (bnext HB46.out HB68.out)
  have HB8 := Lib.hid (bnext HB6.out HB68.out)
  clear ea eb h1 h2 h3 h4 hA12 HO7 HB67 HB6 HB46 HEA HEB HEA1 HEB1 HS1 HJ
  go_wp2_with fail
  refine (whole_any w8 A _ c x rfl (HR.out.below HB8.out (Nat.le_refl _)) (by omega)).mono ?_
  rintro e w9 ⟨rfl, hb9⟩
  have HB89 := Lib.hid hb9
  clear hb9
  go_wp2_with fail
  refine (joined_any w9 A7 A10 _ c7 _ c10 a1 a2 rfl rfl (HRA1.out.below (bnext HB68.out HB89.out) (Nat.le_refl _)) (HRA2.out.below HB89.out (Nat.le_refl _)) (by omega)).mono ?_
  rintro e w10 ⟨A12, c12, rfl, ho10, hb10⟩
  rw [← HAA.out] at ho10 ⊢
  have HR10 := Lib.hid (Rd.of_own ho10)
  have HB8A := Lib.hid (bnext HB89.out hb10)
  clear ho10 hb10
  go_wp2_with fail
  refine (sameInts_eq w10 A4 A12 _ _ c4 c12 a rfl rfl (HRA.out.below (bnext HB48.out HB8A.out) (Nat.le_refl _)) HR10.out (by omega)).mono ?_
  rintro e w11 ⟨rfl, hb11⟩
  have HB8B := Lib.hid (bnext HB8A.out hb11)
  clear hb11
  go_wp2_with fail
  refine (sameInts_eq w11 A5 A11 _ _ c5 c11 b rfl rfl (HRB.out.below (bnext HB48.out HB8B.out) (Nat.le_refl _)) (HRB2.out.below HB8B.out (Nat.le_refl _)) (by omega)).mono ?_
  rintro e w12 ⟨rfl, hb12⟩
  have HBZ := Lib.hid (bnext (bnext HB8.out HB8B.out) hb12)
  clear hb12
  go_wp2
  go_ret
  exact ⟨rfl, HBZ.out⟩

theorem contract (H : Type) (enc : TypeId × Value → H) (W : World) (base : Nat) (args : Array Value) (ds gs : List (DataW H)) (before : List MemPlace)
    (hval : ∀ (j : Nat) t v, Try.f5.params[j]? = some t → args[j]? = some v → Value.okWide Try.prog W .any base t v)
    (hW : DataW.Whole enc Try.prog Try.f5.params.toList Rows.fnScriptCutSpec.vars false W args.toList ds gs before)
    (hsz : (DataW.weightsEach Try.prog (Try.f5.params.toList ++ Rows.fnScriptCutSpec.plain.varTypes Try.prog) (ds ++ gs)).all (· ≤ reachBytes) = true)
    (hk : Rows.uptoSmall H (ds ++ gs) = true) :
    Calls Try.prog 5 args W fun e W' => ∃ v, e = .returned v ∧ Rows.fnScriptCutSpec.post enc Try.prog Try.f5 false true false false W args v W' := by
  have hW' := hW
  obtain ⟨p, q, hA0, hV, rfl, _, _⟩ := hW
  have hA : DataW.TrodAll enc Try.prog W 0 (fun _ => true) true Try.f5.params.toList args.toList ds p := hA0
  rw [Try.params5] at hA hval hsz
  obtain ⟨v0, v1, v2, d0, d1, d2, p0, p1, p2, rfl, rfl, rfl, h0, h1, h2⟩ := trodAll_three hA
  obtain ⟨rfl, rfl⟩ := trodVars_none hV
  obtain ⟨A0, c0, l0, rfl, hr0, hn0, hc0⟩ := open_intslU (hval 0 22 v0 rfl rfl) h0 (fun elems spare he => by
    have := sized_slice hsz (j := 0) (t := 22) (e := 3) rfl (by rw [he]; rfl) Try.underlying22
    rw [bytes_int] at this
    exact this)
  obtain ⟨A1, c1, l1, rfl, hr1, hn1, hc1⟩ := open_stepsU (hval 1 23 v1 rfl rfl) h1 (fun elems spare he => by
    have := sized_slice hsz (j := 1) (t := 23) (e := 46) rfl (by rw [he]; rfl) Try.underlying23
    rw [bytes_lawStep] at this
    exact this)
  obtain ⟨A2, c2, l2, rfl, hr2, hn2, hc2⟩ := open_stepsU (hval 2 23 v2 rfl rfl) h2 (fun elems spare he => by
    have := sized_slice hsz (j := 2) (t := 23) (e := 46) rfl (by rw [he]; rfl) Try.underlying23
    rw [bytes_lawStep] at this
    exact this)
  have hk2 := of_decide_eq_true hk
  simp only [List.append_nil, Rows.uptoBulkAll] at hk2
  have hcall : Calls Try.prog 5 #[.slice A0 l0.length c0, .slice A1 l1.length c1, .slice A2 l2.length c2] W (Gives W (.bool true)) := walk W A0 c0 l0 A1 c1 l1 A2 c2 l2 hr0 hn0 (by omega) hr1 hn1 (by omega) hr2 hn2 (by omega)
  refine hcall.mono fun e W' ⟨he, hb⟩ => ⟨_, he, ?_⟩
  exact law_post hW' rfl rfl rfl rfl rfl (by rw [Try.params5]; exact of_decide_eq_true (by kernel_rfl)) hb

set_option maxRecDepth 100000 in
theorem lifted (os : Os) (started : os.Started) (H : Type) (enc : TypeId × Value → H) (F : Stop.Interp) :
    ReturnsInHanded {} Try.checked os 5 .any ((Rows.OpenSpec.upto Rows.fnScriptCutSpec).pre6 enc Try.prog Try.f5 Rows.fnScriptCutUptoRow.domain false) (((Rows.OpenSpec.upto Rows.fnScriptCutSpec).at F).post enc Try.prog Try.f5 false true false false) := by
  refine returnsInHanded_of_cond_sized (C := Try.checked) (s := Rows.OpenSpec.upto Rows.fnScriptCutSpec) (k := Rows.uptoSmall) rfl own started (by kernel_rfl) Try.func5
    (OpenSpec.witness (enc := enc) (C := Try.checked) (s := Rows.OpenSpec.upto Rows.fnScriptCutSpec) (k := Rows.uptoSmall) rfl false ⟨#[], #[.slice none 0 0, .slice none 0 0, .slice none 0 0], []⟩ 8 (by kernel_rfl) (by kernel_rfl) (by kernel_rfl)
      (x := ([.nil, .nil, .nil], [], [])) (by kernel_rfl) rfl (by kernel_rfl)) ?_
  intro W base args ds gs before hval hW _ hk hsz _
  exact contract H enc W base args ds gs before hval hW hsz hk

theorem proved : Rows.FnScriptCutUptoSaid :=
  OpenClaim.holds_of_cond 5 Try.f5 rfl rfl rfl rfl rfl rfl rfl ⟨rfl, rfl, rfl, rfl, rfl⟩ rfl rfl rfl rfl rfl (by kernel_rfl) Try.func5 (by kernel_rfl)
    (of_decide_eq_true (by kernel_rfl)) (by unfold Func.isWrapper; first | (rw [if_pos (by decide +kernel)]; kernel_rfl) | (rw [if_neg (by decide +kernel)]; exact ⟨rfl, rfl⟩))
    (fun os started H enc _ F => lifted os started H enc F)
end Go.Proofs.Ytjojlnmcifkenaa.fnScriptCut
