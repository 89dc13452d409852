/-
  FnRunKeeps returns true for every list of items and every script. Condition: the reach of a slice that every statement bears.
-/
import Derived.Test.YtadacjndepkfeaaColG
import Derived.Test.YtadacjndepkfeaaSame
import Derived.Test.YtadacjndepkfeaaOpenS
namespace Go.Proofs.Ytadacjndepkfeaa.fnRunKeeps
open Go.ChangeShapes Go.WideShapes Go.ChangeAt Go.RowKit Go.Shelf Go.Deep Go.Joins
open Hp (g swp Ev St plc)

set_option maxHeartbeats 4000000 in
set_option maxRecDepth 100000 in
theorem walk (w : World) (A : Option Addr) (c : Nat) (l : List It) (As : Option Addr) (cs : Nat) (ss : List St) (hr : Rd w A (cls l)) (hn : l.length * 16 ≤ 140737488351232) (hrs : Rd w As (clsT ss)) (hns : ss.length * 32 ≤ 140737488351232) :
    Calls Try.prog 5 #[.slice A l.length c, .slice As ss.length cs] w (Gives w (.bool true)) := by
  have hln : l.length + ss.length + 1 ≤ 13194139537408 := by omega
  have HR := Lib.hid hr
  have HRS := Lib.hid hrs
  have HB0 := Lib.hid (Below.refl w.heap.size w)
  clear hr hrs
  go_enter Try.func5, Try.ntmps5
  go_wp2_with fail
  refine (toItems_any _ A _ c l rfl (HR.out.below HB0.out (Nat.le_refl _)) (m16 (by omega))).mono ?_
  rintro e w1 ⟨A1, c1, rfl, ho1, hb1⟩
  have HRD1 := Lib.hid (Rd.of_own ho1)
  have HB1 := Lib.hid (bnext HB0.out hb1)
  clear ho1 hb1
  go_wp2_with fail
  refine (toStepS_any _ As _ cs ss rfl (HRS.out.below HB1.out (Nat.le_refl _)) (by omega)).mono ?_
  rintro e w2 ⟨A2, c2, rfl, ho2, hb2⟩
  have HRD2 := Lib.hid (Rd.of_own ho2)
  have HRI2 := Lib.hid (HRD1.out.below hb2 (Nat.le_refl _))
  have HB2 := Lib.hid (bnext HB1.out hb2)
  clear ho2 hb2
  have HY2 := HRI2
  have HT2 := HRD2
  clear HRI2 HRD2 HRD1
  go_wp2_with fail
  refine (run_law w2 A1 A2 _ c1 _ c2 l ss rfl rfl HY2.out HT2.out hln (by omega)).mono ?_
  rintro e w3 ⟨S3, O3, B3, d3, Bo3, do3, vs3, hF3, rfl, hrow3, hss3, hout3, hb3⟩
  have HF3 := Lib.hid hF3
  have HY3 := Lib.hid (HY2.out.below hb3 (Nat.le_refl _))
  have HT3 := Lib.hid (HT2.out.below hb3 (Nat.le_refl _))
  have HB3 := Lib.hid (bnext HB2.out hb3)
  clear hF3 hrow3 hss3 hout3 hb3 HY2 HT2
  go_wp2_with fail
  refine (continue_law w3 A1 A2 _ c1 _ c2 l ss rfl rfl HY3.out HT3.out hln (by omega)).mono ?_
  rintro e w4 ⟨S4, O4, B4, d4, Bo4, do4, vs4, hF4, rfl, hrow4, hss4, hout4, hb4⟩
  have HF4 := Lib.hid hF4
  have HY4 := Lib.hid (HY3.out.below hb4 (Nat.le_refl _))
  have HT4 := Lib.hid (HT3.out.below hb4 (Nat.le_refl _))
  have HB4 := Lib.hid (bnext HB3.out hb4)
  clear hF4 hrow4 hss4 hout4 hb4 HY3 HT3
  go_wp2_with fail
  refine (columns_law w4 A1 A2 _ c1 _ c2 l ss rfl rfl HY4.out HT4.out hln (by omega)).mono ?_
  rintro e w5 ⟨S5, O5, B5, d5, Bo5, do5, vs5, hF5, rfl, hrow5, hss5, hout5, hb5⟩
  have HF5 := Lib.hid hF5
  have HY5 := Lib.hid (HY4.out.below hb5 (Nat.le_refl _))
  have HT5 := Lib.hid (HT4.out.below hb5 (Nat.le_refl _))
  have HB5 := Lib.hid (bnext HB4.out hb5)
  clear hF5 hrow5 hss5 hout5 hb5 HY4 HT4
  have hS1 : ((S3.length : Int) == (ss.length : Int) + 1) = true := by rw [HF3.out.len]; simp
  have hSL : S3.length ≤ ss.length + 1 := Nat.le_of_eq HF3.out.len
  clear HF4 HF5
  go_wp2_with fail
  refine (toStepS_any _ As _ cs ss rfl (HRS.out.below HB5.out (Nat.le_refl _)) (by omega)).mono ?_
  rintro e w6 ⟨A6, c6, rfl, ho6, hb6⟩
  have HU6 := Lib.hid (Rd.of_own ho6)
  have HY6 := Lib.hid (HY5.out.below hb6 (Nat.le_refl _))
  have HT6 := Lib.hid (HT5.out.below hb6 (Nat.le_refl _))
  have HB6 := Lib.hid (bnext HB5.out hb6)
  clear ho6 hb6 HY5 HT5
  go_wp2_with fail
  go_loopw [30] (fun s30 wr => ∃ (k : Nat), s30 = .int .i64 (k : Int) ∧ k ≤ ss.length ∧ Below w6.heap.size w6 wr) (fun s30 _ => ss.length - (intOf s30).toNat)
  case atStart => exact ⟨0, rfl, by omega, Below.refl _ _⟩
  case round =>
    obtain ⟨k, rfl, hk, hbw⟩ := hrel
    have hsz := hbw.size
    by_cases hlt : k < ss.length
    · obtain ⟨b, o, hA, hbb, h1, h2, h3, h4⟩ := (HU6.out.below hbw (Nat.le_refl _)).atT k hlt
      obtain ⟨b2, o2, hA2, hbb2, j1, j2, j3, j4⟩ := (HT6.out.below hbw (Nat.le_refl _)).atT k hlt
      subst hA
      subst hA2
      obtain ⟨⟨q, a, kk, t⟩, hx⟩ : ∃ s, g ss k = s := ⟨_, rfl⟩
      rw [hx] at h1 h2 h3 h4 j1 j2 j3 j4
      have HB7 := Lib.hid (fun n => below_drewN (hbw.alloc hsz (.cells #[.int .i64 q, .int .i64 a, .int .i64 kk, .int .i64 t] 45)) n)
      clear hx hbw
      go_wp2_with fail
      go_quiet (fail)
      go_wp2
      go_roundw
      case rel => exact ⟨k + 1, by go_num, by omega, HB7.out _⟩
      case measure => simp [intOf]; omega
    · have HBW := Lib.hid hbw
      clear hbw
      go_wp2_with fail
      refine (toItems_any _ A _ c l rfl (HR.out.below (bnext HB6.out HBW.out) (Nat.le_refl _)) (m16 (by omega))).mono ?_
      rintro e w7 ⟨A7, c7, rfl, ho7, hb7⟩
      have HRD7 := Lib.hid (Rd.of_own ho7)
      have HB7 := Lib.hid hb7
      clear ho7 hb7
      go_wp2_with fail
      refine (sameItems_eq _ A1 A7 _ _ c1 c7 l rfl rfl (HY6.out.below (bnext HBW.out HB7.out) (Nat.le_refl _)) HRD7.out (m16 (by omega))).mono ?_
      rintro e w8 ⟨rfl, hb8⟩
      have HB8 := Lib.hid (bnext (bnext (bnext HB6.out HBW.out) HB7.out) hb8)
      clear hb8
      go_wp2
      go_ret
      exact ⟨rfl, HB8.out⟩

theorem contract (H : Type) (enc : TypeId × Value → H) (W : World) (base : Nat) (args : Array Value) (ds gs : List (DataW H)) (before : List MemPlace)
    (hval : ∀ (j : Nat) t v, Try.f5.params[j]? = some t → args[j]? = some v → Value.okWide Try.prog W .any base t v)
    (hW : DataW.Whole enc Try.prog Try.f5.params.toList Rows.fnRunKeepsSpec.vars false W args.toList ds gs before)
    (hsz : (DataW.weightsEach Try.prog (Try.f5.params.toList ++ Rows.fnRunKeepsSpec.plain.varTypes Try.prog) (ds ++ gs)).all (· ≤ reachBytes) = true) :
    Calls Try.prog 5 args W fun e W' => ∃ v, e = .returned v ∧ Rows.fnRunKeepsSpec.post enc Try.prog Try.f5 false true false false W args v W' := by
  have hW' := hW
  obtain ⟨p, q, hA0, hV, rfl, _, _⟩ := hW
  have hA : DataW.TrodAll enc Try.prog W 0 (fun _ => true) true Try.f5.params.toList args.toList ds p := hA0
  rw [Try.params5] at hA hval hsz
  obtain ⟨v0, v1, d0, d1, p0, p1, rfl, rfl, rfl, h0, h1⟩ := trodAll_two hA
  obtain ⟨rfl, rfl⟩ := trodVars_none hV
  obtain ⟨A0, c0, l0, rfl, hr0, hn0⟩ := open_items (hval 0 22 v0 rfl rfl) h0 (fun elems spare he => by
    have := sized_slice hsz (j := 0) (t := 22) (e := 55) rfl (by rw [he]; rfl) Try.underlying22
    rw [bytes_lawItem] at this
    exact this)
  obtain ⟨A1, c1, l1, rfl, hr1, hn1⟩ := open_steps (hval 1 23 v1 rfl rfl) h1 (fun elems spare he => by
    have := sized_slice hsz (j := 1) (t := 23) (e := 34) rfl (by rw [he]; rfl) Try.underlying23
    rw [bytes_lawStep] at this
    exact this)
  have hcall : Calls Try.prog 5 #[.slice A0 l0.length c0, .slice A1 l1.length c1] W (Gives W (.bool true)) := walk W A0 c0 l0 A1 c1 l1 hr0 hn0 hr1 hn1
  refine hcall.mono fun e W' ⟨he, hb⟩ => ⟨_, he, ?_⟩
  exact law_post hW' rfl rfl rfl rfl rfl (by rw [Try.params5]; exact of_decide_eq_true (by kernel_rfl)) hb

set_option maxRecDepth 100000 in
theorem lifted (os : Os) (started : os.Started) (H : Type) (enc : TypeId × Value → H) :
    ReturnsInHanded {} Try.checked os 5 .any (Rows.fnRunKeepsSpec.pre6 enc Try.prog Try.f5 Rows.fnRunKeepsRow.domain false) (Rows.fnRunKeepsSpec.post enc Try.prog Try.f5 false true false false) := by
  refine returnsInHanded_of_change_sized (C := Try.checked) own started (by kernel_rfl) Try.func5
    (ChangeSpec.witness6 (enc := enc) (C := Try.checked) false ⟨#[], #[.slice none 0 0, .slice none 0 0], []⟩ 8 (by kernel_rfl) (by kernel_rfl) (by kernel_rfl) (by kernel_rfl)) ?_
  intro W base args ds gs before hval hW _ hsz _
  exact contract H enc W base args ds gs before hval hW hsz

theorem proved : Rows.FnRunKeepsSaid :=
  OpenClaim.holds_of_wide 5 Try.f5 rfl rfl rfl rfl rfl rfl rfl ⟨rfl, rfl, rfl, rfl, rfl⟩ rfl rfl rfl rfl rfl (by kernel_rfl) Try.func5 (by kernel_rfl)
    (of_decide_eq_true (by kernel_rfl)) (by unfold Func.isWrapper; first | (rw [if_pos (by decide +kernel)]; kernel_rfl) | (rw [if_neg (by decide +kernel)]; exact ⟨rfl, rfl⟩))
    (fun os started H enc _ => lifted os started H enc)
end Go.Proofs.Ytadacjndepkfeaa.fnRunKeeps
