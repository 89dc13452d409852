/-
  FnExactHeapQueueRest returns true for every script. Condition: the reach of a slice that every statement bears.
-/
import Derived.Test.YtpjdpcpcfcohiaaSpecL
import Derived.Test.YtpjdpcpcfcohiaaExactQ
import Derived.Test.YtpjdpcpcfcohiaaOpenS
namespace Go.Proofs.Ytpjdpcpcfcohiaa.fnExactHeapQueueRest
open Go.ChangeShapes Go.WideShapes Go.ChangeAt Go.RowKit Go.Shelf Go.Deep Go.Joins
open Hp (g swp Ev St plc qOut qRest pushed nums)

set_option maxHeartbeats 4000000 in
set_option maxRecDepth 100000 in
theorem walk (w : World) (As : Option Addr) (cs : Nat) (ss : List St) (hrs : Rd w As (clsT ss)) (hns : ss.length * 32 ≤ 140737488351232) :
    Calls Try.prog 4 #[.slice As ss.length cs] w (Gives w (.bool true)) := by
  have HRS := Lib.hid hrs
  have hsl : ss.length ≤ 4398046510976 := by omega
  clear hrs hns
  by_cases hbig : 1048576 < ss.length
  · go_enter Try.func4, Try.ntmps4
    go_wp2_with (go_at_call 14; refine (szStepS_big _ As _ cs hbig (by omega)).mono ?_; rintro e w' ⟨rfl, rfl⟩)
    go_ret
    exact ⟨rfl, Below.refl _ _⟩
  have hsm : ss.length ≤ 1048576 := by omega
  go_enter Try.func4, Try.ntmps4
  go_wp2_with fail
  refine (szStepS_small _ As _ cs hsm).mono ?_
  rintro e w' ⟨rfl, rfl⟩
  go_wp2_with fail
  refine (toStepS_any _ As _ cs ss rfl HRS.out (by omega)).mono ?_
  rintro e w1 ⟨A1, c1, rfl, ho1, hb1⟩
  have HO1 := Lib.hid (Rd.of_own ho1)
  have HB1 := Lib.hid hb1
  clear ho1 hb1
  go_wp2_with fail
  refine (spec_rest_law w1 A1 _ c1 ss rfl HO1.out (by omega)).mono ?_
  rintro e w2 ⟨Z, A2, c2, eZ, rfl, ho2, hb2⟩
  have hZl : Z.length ≤ ss.length := by rw [eZ]; exact (q_lens ss).2.1
  have HEZ := Lib.hid eZ
  have HO2 := Lib.hid ho2
  have HB2 := Lib.hid (bnext HB1.out hb2)
  clear eZ ho2 hb2 HO1 HB1
  go_wp2_with fail
  refine (toStepS_any _ As _ cs ss rfl (HRS.out.below HB2.out (Nat.le_refl _)) (by omega)).mono ?_
  rintro e w3 ⟨A3, c3, rfl, ho3, hb3⟩
  have HO3 := Lib.hid ho3
  have HB23 := Lib.hid hb3
  clear ho3 hb3
  go_wp2_with fail
  refine (rest_law w3 A3 _ c3 ss rfl (Rd.of_own HO3.out) (by omega)).mono ?_
  rintro e w4 ⟨a, A4, c4, ea, rfl, ho4, hb4⟩
  obtain rfl : a = Z := by rw [ea, HEZ.out]
  have HO4 := Lib.hid ho4
  have HB34 := Lib.hid hb4
  have HB24 := Lib.hid (bnext HB23.out hb4)
  have hs23 := HB23.out.size
  clear ea ho4 hb4
  go_wp2_with fail
  refine (eqItemS_eq w4 A4 A2 _ _ c4 c2 a rfl rfl (Rd.of_own HO4.out) ((Rd.of_own HO2.out).below HB24.out (Nat.le_refl _)) (by omega)).mono ?_
  rintro e w5 ⟨rfl, hb5⟩
  have HB45 := Lib.hid hb5
  clear hb5
  go_wp2_with fail
  refine (toStepS_any w5 As _ cs ss rfl (HRS.out.below (bnext (bnext HB2.out HB24.out) HB45.out) (Nat.le_refl _)) (by omega)).mono ?_
  rintro e w6 ⟨A6, c6, rfl, ho6, hb6⟩
  have HO6 := Lib.hid ho6
  have HB46 := Lib.hid (bnext HB45.out hb6)
  clear ho6 hb6 HB45
  go_wp2_with fail
  refine (eqStepS_eq w6 A3 A6 _ _ c3 c6 ss rfl rfl ((Rd.of_own HO3.out).below (bnext HB34.out HB46.out) (Nat.le_refl _)) (Rd.of_own HO6.out) (by omega)).mono ?_
  rintro e w7 ⟨rfl, hb7⟩
  have HB47 := Lib.hid (bnext HB46.out hb7)
  have HO27 := Lib.hid (own_below (own_below HO2.out HB24.out) HB47.out)
  have HO37 := Lib.hid (own_below (own_below HO3.out HB34.out) HB47.out)
  have HO47 := Lib.hid (own_below HO4.out HB47.out)
  have HB7 := Lib.hid (bnext (bnext HB2.out HB24.out) HB47.out)
  have hz24 := (bnext HB24.out HB47.out).size
  have hz2 := HB2.out.size
  clear hb7 HB46 HO6 HB34
  have hc8 := markStepS_any w7 w2.heap.size A3 ss.length c3 ss 1 rfl HO37.out (by omega) (by omega)
  rw [show ((1 : Nat) : Int) = 1 from rfl] at hc8
  have HC8 := Lib.hid hc8
  obtain ⟨K, hK⟩ : ∃ K : Nat, K = 1 + 4 * ss.length := ⟨_, rfl⟩
  rw [← hK] at HC8
  clear hc8 hK
  go_wp2_with fail
  refine HC8.out.mono ?_
  rintro e w8 ⟨rfl, ⟨xs8, ho8⟩, hg8⟩
  have hf8 : Frm (fun i => (Value.slice A3 ss.length c3).ownBlock = some i) w7 w8 := Frm.of_grown hg8 (fun _ e => e)
  have HO28 := Lib.hid (own_frm HO27.out hf8 (fun k hk e => own_apart HO27.out HO37.out (by decide) k hk e))
  have HO48 := Lib.hid (own_frm HO47.out hf8 (fun k hk e => own_apart HO47.out HO37.out (by decide) k hk e))
  have HB8 := Lib.hid (HB7.out.trans (hf8.below HB7.out.size (fun i e => by have := (HO37.out.lt i e).1; omega)))
  have hz8 := hf8.size
  have hk8 : decide (((K : Nat) : Int) < 0) = false := decide_eq_false (by omega)
  clear ho8 hg8 hf8 HO27 HO37 HO47 HC8
  go_wp2_with fail
  refine (eqItemS_eq w8 A4 A2 _ _ c4 c2 a rfl rfl (Rd.of_own HO48.out) (Rd.of_own HO28.out) (by omega)).mono ?_
  rintro e w9 ⟨rfl, hb9⟩
  have HO29 := Lib.hid (own_below HO28.out hb9)
  have HO49 := Lib.hid (own_below HO48.out hb9)
  have HB9 := Lib.hid (bnext HB8.out hb9)
  have hz9 := hb9.size
  have HAP := Lib.hid (show ∀ k, (Value.slice A2 a.length c2).ownBlock = some k → (Value.slice A4 a.length c4).ownBlock ≠ some k from fun k hk hk2 => by
    have h1 := (HO2.out.lt k hk).2
    have h2 := (HO4.out.lt k hk2).1
    omega)
  clear hb9 HO28 HO48 HB8
  have hc10 := markItemS_any w9 w3.heap.size A4 a.length c4 a 1 rfl HO49.out (by omega) (by omega)
  rw [show ((1 : Nat) : Int) = 1 from rfl] at hc10
  have HC10 := Lib.hid hc10
  obtain ⟨M, hM⟩ : ∃ M : Nat, M = 1 + 2 * a.length := ⟨_, rfl⟩
  rw [← hM] at HC10
  have HM := Lib.hid hM
  clear hc10 hM
  go_wp2_with fail
  refine HC10.out.mono ?_
  rintro e w10 ⟨rfl, ho10, hg10⟩
  have hf10 : Frm (fun i => (Value.slice A4 a.length c4).ownBlock = some i) w9 w10 := Frm.of_grown hg10 (fun _ e => e)
  have HO210 := Lib.hid (own_frm HO29.out hf10 (fun k hk e => HAP.out k hk e))
  have HO10 := Lib.hid ho10
  have HB10 := Lib.hid (HB9.out.trans (hf10.below HB9.out.size (fun i e => by have := (HO49.out.lt i e).1; omega)))
  clear ho10 hg10 hf10 HO29 HO49 HB9 HC10
  have hc11 := heldItemS_any w10 A4 a.length c4 1 (Rd.of_own HO10.out) (by omega) (by omega)
  rw [show ((1 : Nat) : Int) = 1 from rfl, ← HM.out] at hc11
  have HC11 := Lib.hid hc11
  have hm0 : decide (((M : Nat) : Int) < 0) = false := decide_eq_false (by omega)
  clear hc11
  go_wp2_with fail
  refine HC11.out.mono ?_
  rintro e w11 ⟨rfl, hb11⟩
  have HB1011 := Lib.hid hb11
  clear hb11 HC11
  go_wp2_with fail
  refine (toStepS_any w11 As _ cs ss rfl (HRS.out.below (bnext HB10.out HB1011.out) (Nat.le_refl _)) (by omega)).mono ?_
  rintro e w12 ⟨A12, c12, rfl, ho12, hb12⟩
  have HO12 := Lib.hid (Rd.of_own ho12)
  have HB1012 := Lib.hid (bnext HB1011.out hb12)
  clear ho12 hb12 HB1011
  go_wp2_with fail
  refine (rest_law w12 A12 _ c12 ss rfl HO12.out (by omega)).mono ?_
  rintro e w13 ⟨a2, A13, c13, ea2, rfl, ho13, hb13⟩
  obtain rfl : a2 = a := by rw [ea2, HEZ.out]
  have HO13 := Lib.hid (Rd.of_own ho13)
  have HB1013 := Lib.hid (bnext HB1012.out hb13)
  clear ea2 ho13 hb13 HB1012 HO12
  go_wp2_with fail
  refine (eqItemS_eq w13 A13 A2 _ _ c13 c2 a2 rfl rfl HO13.out ((Rd.of_own HO210.out).below HB1013.out (Nat.le_refl _)) (by omega)).mono ?_
  rintro e w14 ⟨rfl, hb14⟩
  have HB1014 := Lib.hid (bnext HB1013.out hb14)
  clear hb14 HB1013 HO13
  have hc15 := heldItemS_any w14 A4 a2.length c4 1 ((Rd.of_own HO10.out).below HB1014.out (Nat.le_refl _)) (by omega) (by omega)
  rw [show ((1 : Nat) : Int) = 1 from rfl, ← HM.out] at hc15
  have HC15 := Lib.hid hc15
  clear hc15
  go_wp2_with fail
  refine HC15.out.mono ?_
  rintro e w15 ⟨rfl, hb15⟩
  have HBZ := Lib.hid (bnext (bnext HB10.out HB1014.out) hb15)
  clear hb15 HC15
  go_wp2
  go_ret
  exact ⟨rfl, HBZ.out⟩

theorem contract (H : Type) (enc : TypeId × Value → H) (W : World) (base : Nat) (args : Array Value) (ds gs : List (DataW H)) (before : List MemPlace)
    (hval : ∀ (j : Nat) t v, Try.f4.params[j]? = some t → args[j]? = some v → Value.okWide Try.prog W .any base t v)
    (hW : DataW.Whole enc Try.prog Try.f4.params.toList Rows.fnExactHeapQueueRestSpec.vars false W args.toList ds gs before)
    (hsz : (DataW.weightsEach Try.prog (Try.f4.params.toList ++ Rows.fnExactHeapQueueRestSpec.plain.varTypes Try.prog) (ds ++ gs)).all (· ≤ reachBytes) = true) :
    Calls Try.prog 4 args W fun e W' => ∃ v, e = .returned v ∧ Rows.fnExactHeapQueueRestSpec.post enc Try.prog Try.f4 false true false false W args v W' := by
  have hW' := hW
  obtain ⟨p, q, hA0, hV, rfl, _, _⟩ := hW
  have hA : DataW.TrodAll enc Try.prog W 0 (fun _ => true) true Try.f4.params.toList args.toList ds p := hA0
  rw [Try.params4] at hA hval hsz
  obtain ⟨v0, d0, rfl, rfl, h0⟩ := trodAll_one hA
  obtain ⟨rfl, rfl⟩ := trodVars_none hV
  obtain ⟨A0, c0, l0, rfl, hr0, hn0⟩ := open_steps (hval 0 22 v0 rfl rfl) h0 (fun elems spare he => by
    have := sized_slice hsz (j := 0) (t := 22) (e := 57) rfl (by rw [he]; rfl) Try.underlying22
    rw [bytes_lawStep] at this
    exact this)
  have hcall : Calls Try.prog 4 #[.slice A0 l0.length c0] W (Gives W (.bool true)) := walk W A0 c0 l0 hr0 hn0
  refine hcall.mono fun e W' ⟨he, hb⟩ => ⟨_, he, ?_⟩
  exact law_post hW' rfl rfl rfl rfl rfl (by rw [Try.params4]; exact of_decide_eq_true (by kernel_rfl)) hb

set_option maxRecDepth 100000 in
theorem lifted (os : Os) (started : os.Started) (H : Type) (enc : TypeId × Value → H) :
    ReturnsInHanded {} Try.checked os 4 .any (Rows.fnExactHeapQueueRestSpec.pre6 enc Try.prog Try.f4 Rows.fnExactHeapQueueRestRow.domain false) (Rows.fnExactHeapQueueRestSpec.post enc Try.prog Try.f4 false true false false) := by
  refine returnsInHanded_of_change_sized (C := Try.checked) own started (by kernel_rfl) Try.func4
    (ChangeSpec.witness6 (enc := enc) (C := Try.checked) false ⟨#[], #[.slice none 0 0], []⟩ 8 (by kernel_rfl) (by kernel_rfl) (by kernel_rfl) (by kernel_rfl)) ?_
  intro W base args ds gs before hval hW _ hsz _
  exact contract H enc W base args ds gs before hval hW hsz

theorem proved : Rows.FnExactHeapQueueRestSaid :=
  OpenClaim.holds_of_wide 4 Try.f4 rfl rfl rfl rfl rfl rfl rfl ⟨rfl, rfl, rfl, rfl, rfl⟩ rfl rfl rfl rfl rfl (by kernel_rfl) Try.func4 (by kernel_rfl)
    (of_decide_eq_true (by kernel_rfl)) (by unfold Func.isWrapper; first | (rw [if_pos (by decide +kernel)]; kernel_rfl) | (rw [if_neg (by decide +kernel)]; exact ⟨rfl, rfl⟩))
    (fun os started H enc _ => lifted os started H enc)
end Go.Proofs.Ytpjdpcpcfcohiaa.fnExactHeapQueueRest
