/-
  FnColumns returns true for every list of items and every script. Condition: the reach of a slice that every statement bears.
-/
import Derived.Test.YtadacjndepkfeaaColG
import Derived.Test.YtadacjndepkfeaaSame
import Derived.Test.YtadacjndepkfeaaOpenS
namespace Go.Proofs.Ytadacjndepkfeaa.fnColumns
open Go.ChangeShapes Go.WideShapes Go.ChangeAt Go.RowKit Go.Shelf Go.Deep Go.Joins
open Hp (g swp Ev St plc)

set_option maxHeartbeats 4000000 in
set_option maxRecDepth 100000 in
theorem walk (w : World) (A : Option Addr) (c : Nat) (l : List It) (As : Option Addr) (cs : Nat) (ss : List St) (hr : Rd w A (cls l)) (hn : l.length * 16 ≤ 140737488351232) (hrs : Rd w As (clsT ss)) (hns : ss.length * 32 ≤ 140737488351232) :
    Calls Try.prog 4 #[.slice A l.length c, .slice As ss.length cs] w (Gives w (.bool true)) := by
  have hln : l.length + ss.length + 1 ≤ 13194139537408 := by omega
  have HR := Lib.hid hr
  have HRS := Lib.hid hrs
  have HB0 := Lib.hid (Below.refl w.heap.size w)
  clear hr hrs
  go_enter Try.func4, Try.ntmps4
  go_wp2_with fail
  refine (toItems_any _ A _ c l rfl (HR.out.below HB0.out (Nat.le_refl _)) (m16 (by omega))).mono ?_
  rintro e w1 ⟨A1, c1, rfl, ho1, hb1⟩
  have HRD1 := Lib.hid (Rd.of_own ho1)
  have HB1 := Lib.hid (bnext HB0.out hb1)
  clear ho1 hb1
  go_wp2_with fail
  refine (toStepS_any _ As _ cs ss rfl (HRS.out.below HB1.out (Nat.le_refl _)) (by omega)).mono ?_
  rintro e w2 ⟨A2, c2, rfl, ho2, hb2⟩
  have HRD2 := Lib.hid (Rd.of_own ho2)
  have HRI2 := Lib.hid (HRD1.out.below hb2 (Nat.le_refl _))
  have HB2 := Lib.hid (bnext HB1.out hb2)
  clear ho2 hb2
  go_wp2_with fail
  refine (run_law w2 A1 A2 _ c1 _ c2 l ss rfl rfl HRI2.out HRD2.out hln (by omega)).mono ?_
  rintro e w3 ⟨S, O, A3, c3, Ao, co, vs, hF, rfl, hrow, hss, hout, hb3⟩
  have HF := Lib.hid hF
  have hS1 : ((S.length : Int) == (ss.length : Int) + 1) = true := by rw [hF.len]; simp
  have hSL : S.length ≤ ss.length + 1 := Nat.le_of_eq hF.len
  have hOL : O.length ≤ ss.length := hF.outl
  have HROW := Lib.hid hrow
  have HSS := Lib.hid hss
  have HOUT := Lib.hid (Rd.of_own hout)
  have HB3 := Lib.hid (bnext HB2.out hb3)
  clear hF hrow hss hout hb3
  go_wp2_with fail
  refine (toItems_any _ A _ c l rfl (HR.out.below HB3.out (Nat.le_refl _)) (m16 (by omega))).mono ?_
  rintro e w4 ⟨A4, c4, rfl, ho4, hb4⟩
  have HRD4 := Lib.hid (Rd.of_own ho4)
  have HC4 := Lib.hid hb4
  have HB4 := Lib.hid (bnext HB3.out hb4)
  clear ho4 hb4
  go_wp2_with fail
  refine (toStepS_any _ As _ cs ss rfl (HRS.out.below HB4.out (Nat.le_refl _)) (by omega)).mono ?_
  rintro e w5 ⟨A5, c5, rfl, ho5, hb5⟩
  have HRD5 := Lib.hid (Rd.of_own ho5)
  have HRI5 := Lib.hid (HRD4.out.below hb5 (Nat.le_refl _))
  have HC5 := Lib.hid (bnext HC4.out hb5)
  have HB5 := Lib.hid (bnext HB4.out hb5)
  clear ho5 hb5
  go_wp2_with fail
  refine (columns_law w5 A4 A5 _ c4 _ c5 l ss rfl rfl HRI5.out HRD5.out hln (by omega)).mono ?_
  rintro e w6 ⟨S2, O2, A6, c6, Aq, cq, vs2, hF2, rfl, hrow2, hss2, hout2, hb6⟩
  have e1 : S2 = S := hF2.eqS.trans HF.out.eqS.symm
  have e2 : O2 = O := hF2.eqO.trans HF.out.eqO.symm
  rw [e1] at hss2 ⊢
  rw [e2] at hout2 ⊢
  have HROW2 := Lib.hid hrow2
  have HSS2 := Lib.hid hss2
  have HOUT2 := Lib.hid (Rd.of_own hout2)
  have HC6 := Lib.hid (bnext HC5.out hb6)
  have HB6 := Lib.hid (bnext HB5.out hb6)
  have HZS : Hid (∀ j, j < S.length → (g S j).length ≤ 13194139537408) := by
    intro j hj
    have h1 := HF.out.size j (by have := HF.out.len; omega)
    rw [Hp.length_init] at h1
    omega
  have hon : O.length * 16 ≤ 211106232598528 := m16 (by omega)
  clear e1 e2 hF2 hrow2 hss2 hout2 hb6
  go_wp2_with fail
  refine (qSameStates_eq _ A3 A6 _ _ c3 c6 S vs vs2 rfl rfl (HROW.out.below HC6.out (Nat.le_refl _)) HROW2.out (HSS.out.below HC6.out) HSS2.out (by omega) HZS.out).mono ?_
  rintro e w7 ⟨rfl, hb7⟩
  have HC7 := Lib.hid hb7
  clear hb7
  go_wp2_with fail
  refine (sameItems_eq _ Ao Aq _ _ co cq O rfl rfl (HOUT.out.below (bnext HC6.out HC7.out) (Nat.le_refl _)) (HOUT2.out.below HC7.out (Nat.le_refl _)) hon).mono ?_
  rintro e w8 ⟨rfl, hb8⟩
  have HB8 := Lib.hid (bnext (bnext HB6.out HC7.out) hb8)
  clear hb8
  go_wp2
  go_ret
  exact ⟨rfl, HB8.out⟩

theorem contract (H : Type) (enc : TypeId × Value → H) (W : World) (base : Nat) (args : Array Value) (ds gs : List (DataW H)) (before : List MemPlace)
    (hval : ∀ (j : Nat) t v, Try.f4.params[j]? = some t → args[j]? = some v → Value.okWide Try.prog W .any base t v)
    (hW : DataW.Whole enc Try.prog Try.f4.params.toList Rows.fnColumnsSpec.vars false W args.toList ds gs before)
    (hsz : (DataW.weightsEach Try.prog (Try.f4.params.toList ++ Rows.fnColumnsSpec.plain.varTypes Try.prog) (ds ++ gs)).all (· ≤ reachBytes) = true) :
    Calls Try.prog 4 args W fun e W' => ∃ v, e = .returned v ∧ Rows.fnColumnsSpec.post enc Try.prog Try.f4 false true false false W args v W' := by
  have hW' := hW
  obtain ⟨p, q, hA0, hV, rfl, _, _⟩ := hW
  have hA : DataW.TrodAll enc Try.prog W 0 (fun _ => true) true Try.f4.params.toList args.toList ds p := hA0
  rw [Try.params4] at hA hval hsz
  obtain ⟨v0, v1, d0, d1, p0, p1, rfl, rfl, rfl, h0, h1⟩ := trodAll_two hA
  obtain ⟨rfl, rfl⟩ := trodVars_none hV
  obtain ⟨A0, c0, l0, rfl, hr0, hn0⟩ := open_items (hval 0 22 v0 rfl rfl) h0 (fun elems spare he => by
    have := sized_slice hsz (j := 0) (t := 22) (e := 55) rfl (by rw [he]; rfl) Try.underlying22
    rw [bytes_lawItem] at this
    exact this)
  obtain ⟨A1, c1, l1, rfl, hr1, hn1⟩ := open_steps (hval 1 23 v1 rfl rfl) h1 (fun elems spare he => by
    have := sized_slice hsz (j := 1) (t := 23) (e := 34) rfl (by rw [he]; rfl) Try.underlying23
    rw [bytes_lawStep] at this
    exact this)
  have hcall : Calls Try.prog 4 #[.slice A0 l0.length c0, .slice A1 l1.length c1] W (Gives W (.bool true)) := walk W A0 c0 l0 A1 c1 l1 hr0 hn0 hr1 hn1
  refine hcall.mono fun e W' ⟨he, hb⟩ => ⟨_, he, ?_⟩
  exact law_post hW' rfl rfl rfl rfl rfl (by rw [Try.params4]; exact of_decide_eq_true (by kernel_rfl)) hb

set_option maxRecDepth 100000 in
theorem lifted (os : Os) (started : os.Started) (H : Type) (enc : TypeId × Value → H) :
    ReturnsInHanded {} Try.checked os 4 .any (Rows.fnColumnsSpec.pre6 enc Try.prog Try.f4 Rows.fnColumnsRow.domain false) (Rows.fnColumnsSpec.post enc Try.prog Try.f4 false true false false) := by
  refine returnsInHanded_of_change_sized (C := Try.checked) own started (by kernel_rfl) Try.func4
    (ChangeSpec.witness6 (enc := enc) (C := Try.checked) false ⟨#[], #[.slice none 0 0, .slice none 0 0], []⟩ 8 (by kernel_rfl) (by kernel_rfl) (by kernel_rfl) (by kernel_rfl)) ?_
  intro W base args ds gs before hval hW _ hsz _
  exact contract H enc W base args ds gs before hval hW hsz

theorem proved : Rows.FnColumnsSaid :=
  OpenClaim.holds_of_wide 4 Try.f4 rfl rfl rfl rfl rfl rfl rfl ⟨rfl, rfl, rfl, rfl, rfl⟩ rfl rfl rfl rfl rfl (by kernel_rfl) Try.func4 (by kernel_rfl)
    (of_decide_eq_true (by kernel_rfl)) (by unfold Func.isWrapper; first | (rw [if_pos (by decide +kernel)]; kernel_rfl) | (rw [if_neg (by decide +kernel)]; exact ⟨rfl, rfl⟩))
    (fun os started H enc _ => lifted os started H enc)
end Go.Proofs.Ytadacjndepkfeaa.fnColumns
