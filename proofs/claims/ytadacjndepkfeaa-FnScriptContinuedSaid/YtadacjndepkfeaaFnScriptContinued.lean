/-
  FnScriptContinued returns true for every list of items and every script. Condition: the reach of a slice that every statement bears.
-/
import Derived.Test.YtadacjndepkfeaaLawRun
import Derived.Test.YtadacjndepkfeaaOpenS
namespace Go.Proofs.Ytadacjndepkfeaa.fnScriptContinued
open Go.ChangeShapes Go.WideShapes Go.ChangeAt Go.RowKit Go.Shelf Go.Deep Go.Joins
open Hp (g swp Ev St plc)

set_option maxHeartbeats 2000000 in
set_option maxRecDepth 100000 in
theorem walk_no (w : World) (A : Option Addr) (c : Nat) (l : List It) (As : Option Addr) (cs : Nat) (ss : List St) (hr : Rd w A (cls l)) (hn : l.length * 16 ≤ 140737488351232) (_hrs : Rd w As (clsT ss)) (_hns : ss.length * 32 ≤ 140737488351232) (hh : ¬ Hp.HO ltK l l.length) :
    Calls Try.prog 6 #[.slice A l.length c, .slice As ss.length cs] w (Gives w (.bool true)) := by
  have HH := Lib.hid hh
  have hn1 : l.length * 16 ≤ 211106232598528 := m16 (by omega)
  clear hh
  go_enter Try.func6, Try.ntmps6
  go_wp2_with fail
  refine (toItems_any _ A _ c l rfl hr hn1).mono ?_
  rintro e w1 ⟨A1, c1, rfl, ho1, hb1⟩
  have HRD1 := Lib.hid (Rd.of_own ho1)
  have HB1 := Lib.hid hb1
  clear ho1 hb1 hr
  go_wp2_with fail
  refine (heapOrdered_any _ A1 _ c1 l false rfl HRD1.out hn1 ⟨(fun h => by cases h), (fun h => absurd h HH.out)⟩).mono ?_
  rintro e w2 ⟨rfl, hb2⟩
  have HB2 := Lib.hid (bnext HB1.out hb2)
  clear hb2
  go_wp2
  go_ret
  exact ⟨rfl, HB2.out⟩

set_option maxHeartbeats 2000000 in
set_option maxRecDepth 100000 in
theorem walk_yes (w : World) (A : Option Addr) (c : Nat) (l : List It) (As : Option Addr) (cs : Nat) (ss : List St) (hr : Rd w A (cls l)) (hn : l.length * 16 ≤ 140737488351232) (hrs : Rd w As (clsT ss)) (hns : ss.length * 32 ≤ 140737488351232) (hh : Hp.HO ltK l l.length) :
    Calls Try.prog 6 #[.slice A l.length c, .slice As ss.length cs] w (Gives w (.bool true)) := by
  have HH := Lib.hid hh
  have hn1 : l.length * 16 ≤ 211106232598528 := m16 (by omega)
  clear hh
  have hln : l.length + ss.length + 1 ≤ 13194139537408 := by omega
  have HR := Lib.hid hr
  have HRS := Lib.hid hrs
  clear hr hrs
  go_enter Try.func6, Try.ntmps6
  go_wp2_with fail
  refine (toItems_any _ A _ c l rfl HR.out hn1).mono ?_
  rintro e w1 ⟨A1, c1, rfl, ho1, hb1⟩
  have HRD1 := Lib.hid (Rd.of_own ho1)
  have HB1 := Lib.hid hb1
  clear ho1 hb1
  go_wp2_with fail
  refine (heapOrdered_any _ A1 _ c1 l true rfl HRD1.out hn1 ⟨(fun _ => HH.out), (fun _ => rfl)⟩).mono ?_
  rintro e w2 ⟨rfl, hb2⟩
  have HB2 := Lib.hid (bnext HB1.out hb2)
  clear hb2
  go_wp2_with fail
  refine (toItems_any _ A _ c l rfl (HR.out.below HB2.out (Nat.le_refl _)) (m16 (by omega))).mono ?_
  rintro e w3 ⟨A3, c3, rfl, ho3, hb3⟩
  have HRD3 := Lib.hid (Rd.of_own ho3)
  have HB3 := Lib.hid (bnext HB2.out hb3)
  clear ho3 hb3
  go_wp2_with fail
  refine (toStepS_any _ As _ cs ss rfl (HRS.out.below HB3.out (Nat.le_refl _)) (by omega)).mono ?_
  rintro e w4 ⟨A4, c4, rfl, ho4, hb4⟩
  have HRD4 := Lib.hid (Rd.of_own ho4)
  have HRI4 := Lib.hid (HRD3.out.below hb4 (Nat.le_refl _))
  have HB4 := Lib.hid (bnext HB3.out hb4)
  clear ho4 hb4
  go_wp2_with fail
  refine (continue_law w4 A3 A4 _ c3 _ c4 l ss rfl rfl HRI4.out HRD4.out hln (by omega)).mono ?_
  rintro e w5 ⟨S, O, A5, c5, Ao, co, vs, hF, rfl, hrow, hss, hout, hb5⟩
  have HF := Lib.hid hF
  have hS1 : ((S.length : Int) == (ss.length : Int) + 1) = true := by rw [hF.len]; simp
  have hS2 : ((S.length : Int) != (ss.length : Int) + 1) = false := by rw [hF.len]; simp
  have hSL : S.length ≤ ss.length + 1 := Nat.le_of_eq hF.len
  have hSG : ss.length + 1 ≤ S.length := Nat.le_of_eq hF.len.symm
  have hOL : O.length ≤ ss.length := hF.outl
  have HROW := Lib.hid hrow
  have HSS := Lib.hid hss
  have HOUT := Lib.hid hout
  have HB5 := Lib.hid (bnext HB4.out hb5)
  clear hF hrow hss hout hb5
  have hho : ∀ k, k < S.length → Hp.HO ltK (g S k) (g S k).length ∧ (g S k).length ≤ l.length + ss.length := by
    intro k hk
    have h1 : k ≤ ss.length := by omega
    exact ⟨HF.out.ho HH.out k h1, HF.out.size k h1⟩
  have HHO := Lib.hid hho
  clear hho
  go_wp2_with fail
  go_loopw [23] (fun s23 wr => ∃ (k : Nat), s23 = .int .i64 (k : Int) ∧ k ≤ S.length ∧ Below w5.heap.size w5 wr) (fun s23 _ => S.length - (intOf s23).toNat)
  case atStart => exact ⟨0, rfl, by omega, Below.refl _ _⟩
  case round =>
    obtain ⟨k, rfl, hk, hbw⟩ := hrel
    have HBW := Lib.hid hbw
    clear hbw
    by_cases hlt : k < S.length
    · obtain ⟨b, o, Ak, ck, hA, hbb, hcell, hrk⟩ := st_at (HROW.out.below HBW.out (Nat.le_refl _)) (HSS.out.below HBW.out) k hlt
      subst hA
      obtain ⟨h1, h2⟩ := HHO.out k hlt
      obtain ⟨X, hX⟩ : ∃ X, X = g S k := ⟨_, rfl⟩
      rw [← hX] at hcell hrk h1 h2
      have HRK := Lib.hid hrk
      have H1 := Lib.hid h1
      clear hrk h1 hX
      have h3 : X.length * 16 ≤ 211106232598528 := m16 (by omega)
      go_wp2_with fail
      refine (heapOrdered_any wr Ak _ ck X true rfl HRK.out h3 ⟨(fun _ => H1.out), (fun _ => rfl)⟩).mono ?_
      rintro e w6 ⟨rfl, hb6⟩
      have HB6 := Lib.hid (bnext HBW.out hb6)
      clear hb6 hcell h3
      go_wp2
      go_roundw
      case rel => exact ⟨k + 1, by go_num, by omega, HB6.out⟩
      case measure => simp [intOf]; omega
    · obtain ⟨b3, o3, Ak0, ck0, hA0, hbt0, hcell0, hrk0⟩ := st_at (HROW.out.below HBW.out (Nat.le_refl _)) (HSS.out.below HBW.out) 0 (by omega)
      subst hA0
      rw [HF.out.zero] at hcell0 hrk0
      rw [Nat.add_zero] at hcell0
      have HRK0 := Lib.hid hrk0
      clear hrk0
      have hS0 : 0 < S.length := by omega
      have hS0' : (0 : Int) < (S.length : Int) := by omega
      go_wp2_with fail
      have hwrap : IntKind.i64.wrap ((ss.length : Int) + 1) = (ss.length : Int) + 1 := by simp [IntKind.wrap, IntKind.bits, IntKind.signed]; omega
      go_region_held3 (fun w' => w'.cell? ⟨b3, o3, none⟩ = some (.slice Ak0 l.length ck0))
        (first
          | exact kb0
          | exact ka0
          | go_keep)
        (first
          | (go_at_call 16
             ((with_reducible refine (toItems_any _ A _ c l rfl ?_ hn1).mono ?_)
              · exact HR.out.below (bnext HB5.out HBW.out).drew (Nat.le_refl _)
              rintro e w6 ⟨A6, c6, rfl, ho6, hb6⟩
              have ka0 := (hb6.cell (p := ⟨b3, o3, none⟩) hbt0).trans hcell0
              have hz6 : b3 < w6.heap.size := Nat.lt_of_lt_of_le hbt0 hb6.size
              have HRD6 := Lib.hid (Rd.of_own ho6)
              have HB6 := Lib.hid (bnext (Below.refl wr.heap.size wr).drew hb6)
              clear ho6))
          | (go_at_call 18
             ((with_reducible refine (sameItems_eq _ Ak0 A6 _ _ ck0 c6 l rfl rfl ?_ ?_ hn1).mono ?_)
              · exact HRK0.out.below HB6.out (Nat.le_refl _)
              · exact HRD6.out
              rintro e w7 ⟨rfl, hb7⟩
              have kb0 := (hb7.cell (p := ⟨b3, o3, none⟩) hz6).trans ka0)))
      have HB7 := Lib.hid (bnext (bnext (bnext HB5.out HBW.out) HB6.out) hb7)
      clear hb6 hb7 ka0 kb0 hcell0 hwrap hS0 hS0'
      go_wp2
      go_ret
      exact ⟨rfl, HB7.out⟩

theorem walk (w : World) (A : Option Addr) (c : Nat) (l : List It) (As : Option Addr) (cs : Nat) (ss : List St) (hr : Rd w A (cls l)) (hn : l.length * 16 ≤ 140737488351232) (hrs : Rd w As (clsT ss)) (hns : ss.length * 32 ≤ 140737488351232) :
    Calls Try.prog 6 #[.slice A l.length c, .slice As ss.length cs] w (Gives w (.bool true)) := by
  by_cases hh : Hp.HO ltK l l.length
  · exact walk_yes w A c l As cs ss hr hn hrs hns hh
  · exact walk_no w A c l As cs ss hr hn hrs hns hh

theorem contract (H : Type) (enc : TypeId × Value → H) (W : World) (base : Nat) (args : Array Value) (ds gs : List (DataW H)) (before : List MemPlace)
    (hval : ∀ (j : Nat) t v, Try.f6.params[j]? = some t → args[j]? = some v → Value.okWide Try.prog W .any base t v)
    (hW : DataW.Whole enc Try.prog Try.f6.params.toList Rows.fnScriptContinuedSpec.vars false W args.toList ds gs before)
    (hsz : (DataW.weightsEach Try.prog (Try.f6.params.toList ++ Rows.fnScriptContinuedSpec.plain.varTypes Try.prog) (ds ++ gs)).all (· ≤ reachBytes) = true) :
    Calls Try.prog 6 args W fun e W' => ∃ v, e = .returned v ∧ Rows.fnScriptContinuedSpec.post enc Try.prog Try.f6 false true false false W args v W' := by
  have hW' := hW
  obtain ⟨p, q, hA0, hV, rfl, _, _⟩ := hW
  have hA : DataW.TrodAll enc Try.prog W 0 (fun _ => true) true Try.f6.params.toList args.toList ds p := hA0
  rw [Try.params6] at hA hval hsz
  obtain ⟨v0, v1, d0, d1, p0, p1, rfl, rfl, rfl, h0, h1⟩ := trodAll_two hA
  obtain ⟨rfl, rfl⟩ := trodVars_none hV
  obtain ⟨A0, c0, l0, rfl, hr0, hn0⟩ := open_items (hval 0 22 v0 rfl rfl) h0 (fun elems spare he => by
    have := sized_slice hsz (j := 0) (t := 22) (e := 55) rfl (by rw [he]; rfl) Try.underlying22
    rw [bytes_lawItem] at this
    exact this)
  obtain ⟨A1, c1, l1, rfl, hr1, hn1⟩ := open_steps (hval 1 23 v1 rfl rfl) h1 (fun elems spare he => by
    have := sized_slice hsz (j := 1) (t := 23) (e := 34) rfl (by rw [he]; rfl) Try.underlying23
    rw [bytes_lawStep] at this
    exact this)
  have hcall : Calls Try.prog 6 #[.slice A0 l0.length c0, .slice A1 l1.length c1] W (Gives W (.bool true)) := walk W A0 c0 l0 A1 c1 l1 hr0 hn0 hr1 hn1
  refine hcall.mono fun e W' ⟨he, hb⟩ => ⟨_, he, ?_⟩
  exact law_post hW' rfl rfl rfl rfl rfl (by rw [Try.params6]; exact of_decide_eq_true (by kernel_rfl)) hb

set_option maxRecDepth 100000 in
theorem lifted (os : Os) (started : os.Started) (H : Type) (enc : TypeId × Value → H) :
    ReturnsInHanded {} Try.checked os 6 .any (Rows.fnScriptContinuedSpec.pre6 enc Try.prog Try.f6 Rows.fnScriptContinuedRow.domain false) (Rows.fnScriptContinuedSpec.post enc Try.prog Try.f6 false true false false) := by
  refine returnsInHanded_of_change_sized (C := Try.checked) own started (by kernel_rfl) Try.func6
    (ChangeSpec.witness6 (enc := enc) (C := Try.checked) false ⟨#[], #[.slice none 0 0, .slice none 0 0], []⟩ 8 (by kernel_rfl) (by kernel_rfl) (by kernel_rfl) (by kernel_rfl)) ?_
  intro W base args ds gs before hval hW _ hsz _
  exact contract H enc W base args ds gs before hval hW hsz

theorem proved : Rows.FnScriptContinuedSaid :=
  OpenClaim.holds_of_wide 6 Try.f6 rfl rfl rfl rfl rfl rfl rfl ⟨rfl, rfl, rfl, rfl, rfl⟩ rfl rfl rfl rfl rfl (by kernel_rfl) Try.func6 (by kernel_rfl)
    (of_decide_eq_true (by kernel_rfl)) (by unfold Func.isWrapper; first | (rw [if_pos (by decide +kernel)]; kernel_rfl) | (rw [if_neg (by decide +kernel)]; exact ⟨rfl, rfl⟩))
    (fun os started H enc _ => lifted os started H enc)
end Go.Proofs.Ytadacjndepkfeaa.fnScriptContinued
