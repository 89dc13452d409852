/-
  FnScriptOrder returns true for every list of items and every script. Condition: the reach of a slice that every statement bears.
-/
import Derived.Test.YtadacjndepkfeaaLawRun
import Derived.Test.YtadacjndepkfeaaOpenS
namespace Go.Proofs.Ytadacjndepkfeaa.fnScriptOrder
open Go.ChangeShapes Go.WideShapes Go.ChangeAt Go.RowKit Go.Shelf Go.Deep Go.Joins
open Hp (g swp Ev St plc)

set_option maxHeartbeats 2000000 in
set_option maxRecDepth 100000 in
theorem walk (w : World) (A : Option Addr) (c : Nat) (l : List It) (As : Option Addr) (cs : Nat) (ss : List St) (hr : Rd w A (cls l)) (hn : l.length * 16 ≤ 140737488351232) (hrs : Rd w As (clsT ss)) (hns : ss.length * 32 ≤ 140737488351232) :
    Calls Try.prog 11 #[.slice A l.length c, .slice As ss.length cs] w (Gives w (.bool true)) := by
  have hln : l.length + ss.length + 1 ≤ 13194139537408 := by omega
  have HR := Lib.hid hr
  have HRS := Lib.hid hrs
  clear hr hrs
  go_enter Try.func11, Try.ntmps11
  go_wp2_with fail
  refine (toItems_any _ A _ c l rfl (HR.out.below (Below.refl w.heap.size w) (Nat.le_refl _)) (m16 (by omega))).mono ?_
  rintro e w1 ⟨A1, c1, rfl, ho1, hb1⟩
  have HRD1 := Lib.hid (Rd.of_own ho1)
  have HB1 := Lib.hid (bnext (Below.refl w.heap.size w) hb1)
  clear ho1 hb1
  go_wp2_with fail
  refine (toStepS_any _ As _ cs ss rfl (HRS.out.below HB1.out (Nat.le_refl _)) (by omega)).mono ?_
  rintro e w2 ⟨A2, c2, rfl, ho2, hb2⟩
  have HRD2 := Lib.hid (Rd.of_own ho2)
  have HRI2 := Lib.hid (HRD1.out.below hb2 (Nat.le_refl _))
  have HB2 := Lib.hid (bnext HB1.out hb2)
  clear ho2 hb2
  go_wp2_with fail
  refine (run_law w2 A1 A2 _ c1 _ c2 l ss rfl rfl HRI2.out HRD2.out hln (by omega)).mono ?_
  rintro e w3 ⟨S, O, A3, c3, Ao, co, vs, hF, rfl, hrow, hss, hout, hb3⟩
  have HF := Lib.hid hF
  have hS1 : ((S.length : Int) == (ss.length : Int) + 1) = true := by rw [hF.len]; simp
  have hS2 : ((S.length : Int) != (ss.length : Int) + 1) = false := by rw [hF.len]; simp
  have hSL : S.length ≤ ss.length + 1 := Nat.le_of_eq hF.len
  have hSG : ss.length + 1 ≤ S.length := Nat.le_of_eq hF.len.symm
  have hOL : O.length ≤ ss.length := hF.outl
  have HROW := Lib.hid hrow
  have HSS := Lib.hid hss
  have HOUT := Lib.hid hout
  have HB3 := Lib.hid (bnext HB2.out hb3)
  clear hF hrow hss hout hb3
  have hho : ∀ k, k < S.length → Hp.HO ltK (g S k) (g S k).length ∧ (g S k).length ≤ l.length + ss.length := by
    intro k hk
    have h1 : k ≤ ss.length := by omega
    refine ⟨HF.out.ho (by rw [Hp.length_init]; exact Hp.init_HO wo_ltK l) k h1, ?_⟩
    have := HF.out.size k h1
    rwa [Hp.length_init] at this
  have HHO := Lib.hid hho
  clear hho
  go_wp2_with fail
  go_loopw [19] (fun s19 wr => ∃ (k : Nat), s19 = .int .i64 (k : Int) ∧ k ≤ S.length ∧ Below w3.heap.size w3 wr) (fun s19 _ => S.length - (intOf s19).toNat)
  case atStart => exact ⟨0, rfl, by omega, Below.refl _ _⟩
  case round =>
    obtain ⟨k, rfl, hk, hbw⟩ := hrel
    have HBW := Lib.hid hbw
    clear hbw
    by_cases hlt : k < S.length
    · obtain ⟨b, o, Ak, ck, hA, hbb, hcell, hrk⟩ := st_at (HROW.out.below HBW.out (Nat.le_refl _)) (HSS.out.below HBW.out) k hlt
      subst hA
      obtain ⟨h1, h2⟩ := HHO.out k hlt
      obtain ⟨X, hX⟩ : ∃ X, X = g S k := ⟨_, rfl⟩
      rw [← hX] at hcell hrk h1 h2
      have HRK := Lib.hid hrk
      have H1 := Lib.hid h1
      clear hrk h1 hX
      have h3 : X.length * 16 ≤ 211106232598528 := m16 (by omega)
      go_wp2_with fail
      refine (heapOrdered_any wr Ak _ ck X true rfl HRK.out h3 ⟨(fun _ => H1.out), (fun _ => rfl)⟩).mono ?_
      rintro e w5 ⟨rfl, hb5⟩
      have HB5 := Lib.hid (bnext HBW.out hb5)
      clear hb5 hcell h3
      go_wp2
      go_roundw
      case rel => exact ⟨k + 1, by go_num, by omega, HB5.out⟩
      case measure => simp [intOf]; omega
    · go_wp2
      go_ret
      exact ⟨rfl, bnext HB3.out HBW.out⟩

theorem contract (H : Type) (enc : TypeId × Value → H) (W : World) (base : Nat) (args : Array Value) (ds gs : List (DataW H)) (before : List MemPlace)
    (hval : ∀ (j : Nat) t v, Try.f11.params[j]? = some t → args[j]? = some v → Value.okWide Try.prog W .any base t v)
    (hW : DataW.Whole enc Try.prog Try.f11.params.toList Rows.fnScriptOrderSpec.vars false W args.toList ds gs before)
    (hsz : (DataW.weightsEach Try.prog (Try.f11.params.toList ++ Rows.fnScriptOrderSpec.plain.varTypes Try.prog) (ds ++ gs)).all (· ≤ reachBytes) = true) :
    Calls Try.prog 11 args W fun e W' => ∃ v, e = .returned v ∧ Rows.fnScriptOrderSpec.post enc Try.prog Try.f11 false true false false W args v W' := by
  have hW' := hW
  obtain ⟨p, q, hA0, hV, rfl, _, _⟩ := hW
  have hA : DataW.TrodAll enc Try.prog W 0 (fun _ => true) true Try.f11.params.toList args.toList ds p := hA0
  rw [Try.params11] at hA hval hsz
  obtain ⟨v0, v1, d0, d1, p0, p1, rfl, rfl, rfl, h0, h1⟩ := trodAll_two hA
  obtain ⟨rfl, rfl⟩ := trodVars_none hV
  obtain ⟨A0, c0, l0, rfl, hr0, hn0⟩ := open_items (hval 0 22 v0 rfl rfl) h0 (fun elems spare he => by
    have := sized_slice hsz (j := 0) (t := 22) (e := 55) rfl (by rw [he]; rfl) Try.underlying22
    rw [bytes_lawItem] at this
    exact this)
  obtain ⟨A1, c1, l1, rfl, hr1, hn1⟩ := open_steps (hval 1 23 v1 rfl rfl) h1 (fun elems spare he => by
    have := sized_slice hsz (j := 1) (t := 23) (e := 34) rfl (by rw [he]; rfl) Try.underlying23
    rw [bytes_lawStep] at this
    exact this)
  have hcall : Calls Try.prog 11 #[.slice A0 l0.length c0, .slice A1 l1.length c1] W (Gives W (.bool true)) := walk W A0 c0 l0 A1 c1 l1 hr0 hn0 hr1 hn1
  refine hcall.mono fun e W' ⟨he, hb⟩ => ⟨_, he, ?_⟩
  exact law_post hW' rfl rfl rfl rfl rfl (by rw [Try.params11]; exact of_decide_eq_true (by kernel_rfl)) hb

set_option maxRecDepth 100000 in
theorem lifted (os : Os) (started : os.Started) (H : Type) (enc : TypeId × Value → H) :
    ReturnsInHanded {} Try.checked os 11 .any (Rows.fnScriptOrderSpec.pre6 enc Try.prog Try.f11 Rows.fnScriptOrderRow.domain false) (Rows.fnScriptOrderSpec.post enc Try.prog Try.f11 false true false false) := by
  refine returnsInHanded_of_change_sized (C := Try.checked) own started (by kernel_rfl) Try.func11
    (ChangeSpec.witness6 (enc := enc) (C := Try.checked) false ⟨#[], #[.slice none 0 0, .slice none 0 0], []⟩ 8 (by kernel_rfl) (by kernel_rfl) (by kernel_rfl) (by kernel_rfl)) ?_
  intro W base args ds gs before hval hW _ hsz _
  exact contract H enc W base args ds gs before hval hW hsz

theorem proved : Rows.FnScriptOrderSaid :=
  OpenClaim.holds_of_wide 11 Try.f11 rfl rfl rfl rfl rfl rfl rfl ⟨rfl, rfl, rfl, rfl, rfl⟩ rfl rfl rfl rfl rfl (by kernel_rfl) Try.func11 (by kernel_rfl)
    (of_decide_eq_true (by kernel_rfl)) (by unfold Func.isWrapper; first | (rw [if_pos (by decide +kernel)]; kernel_rfl) | (rw [if_neg (by decide +kernel)]; exact ⟨rfl, rfl⟩))
    (fun os started H enc _ => lifted os started H enc)
end Go.Proofs.Ytadacjndepkfeaa.fnScriptOrder
