/-
  FnQueueDrained returns true for every script. Condition: the reach of a slice and the bound on the bulk that the statement bears.
-/
import Derived.Test.YtpjdpcpcfcohiaaDeskL
import Derived.Test.YtpjdpcpcfcohiaaOpenU
namespace Go.Proofs.Ytpjdpcpcfcohiaa.fnQueueDrained
open Go.ChangeShapes Go.WideShapes Go.ChangeAt Go.RowKit Go.Shelf Go.Deep Go.Joins
open Hp (g swp Ev St plc qOut qRest pushed nums)

theorem drained_out (ss : List St) : qOut (ss ++ List.replicate ss.length stPop) = qOut ss ++ qRest ss := by
  have h := Hp.drained ss.length (Hp.qInv ss) (by have h1 := q_lens ss; have h2 := Hp.length_qRest ss; unfold Hp.qHeld at h2; omega)
  unfold Hp.qOut
  rw [Hp.outW_append]
  show _ ++ Hp.outW _ (List.replicate ss.length ((2 : Int), (0 : Int), (0 : Int), (0 : Int))) = _
  rw [h]
  rfl

set_option maxHeartbeats 2000000 in
set_option maxRecDepth 100000 in
theorem walk (w : World) (As : Option Addr) (cs : Nat) (ss : List St) (hrs : Rd w As (clsT ss)) (_hns : ss.length * 32 ≤ 140737488351232) (hu : ss.length ≤ 1048576) :
    Calls Try.prog 8 #[.slice As ss.length cs] w (Gives w (.bool true)) := by
  have HRS := Lib.hid hrs
  clear hrs _hns
  go_enter Try.func8, Try.ntmps8
  go_wp2_with fail
  refine (toStepS_any _ As _ cs ss rfl HRS.out (by omega)).mono ?_
  rintro e w1 ⟨A1, c1, rfl, ho1, hb1⟩
  have HO1 := Lib.hid (Rd.of_own ho1)
  have HB1 := Lib.hid hb1
  clear ho1 hb1
  go_wp2_with fail
  refine (pops_any w1 ss.length (by omega)).mono ?_
  rintro e w2 ⟨A2, c2, rfl, ho2, hb2⟩
  obtain ⟨PP, hPP⟩ : ∃ PP, PP = List.replicate ss.length stPop := ⟨_, rfl⟩
  rw [← hPP] at ho2 ⊢
  have hPl : PP.length ≤ ss.length := by rw [hPP]; simp
  have HO1b := Lib.hid (HO1.out.below hb2 (Nat.le_refl _))
  have HO2 := Lib.hid (Rd.of_own ho2)
  have HB2 := Lib.hid (bnext HB1.out hb2)
  have HPP := Lib.hid hPP
  clear ho2 hb2 hPP HO1 HB1
  go_wp2_with fail
  refine (then_any w2 A1 A2 _ c1 _ c2 ss PP rfl rfl HO1b.out HO2.out (by omega)).mono ?_
  rintro e w3 ⟨A3, c3, rfl, ho3, hb3⟩
  obtain ⟨J, hJ⟩ : ∃ J, J = ss ++ PP := ⟨_, rfl⟩
  rw [← hJ] at ho3 ⊢
  have hJl : J.length ≤ ss.length + PP.length := by rw [hJ]; simp
  have HO3 := Lib.hid (Rd.of_own ho3)
  have HB3 := Lib.hid (bnext HB2.out hb3)
  have HJ := Lib.hid hJ
  clear ho3 hb3 hJ HO1b HO2 HB2
  go_wp2_with fail
  refine (queue_law w3 A3 _ c3 J rfl HO3.out (by omega)).mono ?_
  rintro e w4 ⟨Z, A4, c4, eZ, rfl, ho4, hb4⟩
  rw [HJ.out, HPP.out, drained_out] at eZ
  have HEZ := Lib.hid eZ
  have HRZ := Lib.hid (Rd.of_own ho4)
  have HB4 := Lib.hid (bnext HB3.out hb4)
  clear eZ ho4 hb4 HO3 HB3 HJ HPP
  go_wp2_with fail
  refine (toStepS_any _ As _ cs ss rfl (HRS.out.below HB4.out (Nat.le_refl _)) (by omega)).mono ?_
  rintro e w5 ⟨A5, c5, rfl, ho5, hb5⟩
  have HO5 := Lib.hid (Rd.of_own ho5)
  have HB45 := Lib.hid hb5
  clear ho5 hb5
  go_wp2_with fail
  refine (queue_law w5 A5 _ c5 ss rfl HO5.out (by omega)).mono ?_
  rintro e w6 ⟨a, A6, c6, ea, rfl, ho6, hb6⟩
  have HEA := Lib.hid ea
  have HRA := Lib.hid (Rd.of_own ho6)
  have HB46 := Lib.hid (bnext HB45.out hb6)
  clear ea ho6 hb6 HO5 HB45
  go_wp2_with fail
  refine (toStepS_any _ As _ cs ss rfl (HRS.out.below (bnext HB4.out HB46.out) (Nat.le_refl _)) (by omega)).mono ?_
  rintro e w7 ⟨A7, c7, rfl, ho7, hb7⟩
  have HO7 := Lib.hid (Rd.of_own ho7)
  have HB67 := Lib.hid hb7
  clear ho7 hb7
  go_wp2_with fail
  refine (rest_law w7 A7 _ c7 ss rfl HO7.out (by omega)).mono ?_
  rintro e w8 ⟨b, A8, c8, eb, rfl, ho8, hb8⟩
  have hln := Hp.qLen ss
  have hpl := Hp.pushed_le ss
  have hZZ : Z = a ++ b := by rw [HEZ.out, HEA.out, eb]
  have hab : a.length + b.length = pushed ss := by rw [HEA.out, eb]; exact hln
  have hZl : ((Z.length : Int) == ((pushed ss : Nat) : Int)) = true := by rw [hZZ, List.length_append, hab]; simp
  have hZs : Z.length ≤ ss.length := by rw [hZZ, List.length_append, hab]; exact hpl
  have hal : a.length + b.length ≤ ss.length := by rw [hab]; exact hpl
  have HZZ := Lib.hid hZZ
  have HRB := Lib.hid (Rd.of_own ho8)
  have HB68 := Lib.hid (bnext HB67.out hb8)
  have HB48 := Lib.hid (bnext HB46.out HB68.out)
  clear eb ho8 hb8 hln hZZ hab HO7 HB67 HEA HEZ HB46
  go_wp2_with fail
  refine (made_any w8 As ss.length cs ss rfl (HRS.out.below (bnext HB4.out HB48.out) (Nat.le_refl _)) (by omega)).mono ?_
  rintro e w9 ⟨rfl, hb9⟩
  have HB89 := Lib.hid hb9
  obtain ⟨A10, c10, w10, h10, ho10, hB10⟩ := run_copy_items w9 A6 c6 a (HRA.out.below (bnext HB68.out hb9) (Nat.le_refl _)) (by omega) 24
  obtain ⟨A11, c11, w11, h11, ho11, hg11⟩ := run_append_its w10 w9.heap.size _ a b A8 c8 ho10 (HRB.out.below (bnext hb9 hB10) (Nat.le_refl _)) (by omega) hB10.size 24
  have hB11 := hB10.grown hg11 hB10.size (fun k hk => (ho10.lt k hk).1)
  rw [← List.length_append, ← HZZ.out] at ho11 h11
  have HR10 := Lib.hid h10
  have HR11 := Lib.hid h11
  have HO11 := Lib.hid (Rd.of_own ho11)
  have HB9B := Lib.hid (bnext HB89.out hB11)
  clear hb9 h10 ho10 hB10 h11 ho11 hg11 hB11
  go_wp2_with (first
    | (at_builtin; refine wpList_append_run_g (by simp [Region.wanted, yielded, hZl]) _ _ _ rfl _ _ _ _ rfl rfl HR10.out ?_)
    | (at_builtin; refine wpList_append_run_g (by simp [Region.wanted, yielded, hZl]) _ _ _ rfl _ _ _ _ rfl rfl HR11.out ?_))
  refine (sameItems_eq w11 A4 A11 _ _ c4 c11 Z rfl rfl (HRZ.out.below (bnext HB48.out HB9B.out) (Nat.le_refl _)) HO11.out (by omega)).mono ?_
  rintro e w12 ⟨rfl, hb12⟩
  have HBZ := Lib.hid (bnext (bnext HB4.out (bnext HB48.out HB9B.out)) hb12)
  clear hb12
  go_wp2
  go_ret
  exact ⟨rfl, HBZ.out⟩

theorem contract (H : Type) (enc : TypeId × Value → H) (W : World) (base : Nat) (args : Array Value) (ds gs : List (DataW H)) (before : List MemPlace)
    (hval : ∀ (j : Nat) t v, Try.f8.params[j]? = some t → args[j]? = some v → Value.okWide Try.prog W .any base t v)
    (hW : DataW.Whole enc Try.prog Try.f8.params.toList Rows.fnQueueDrainedSpec.vars false W args.toList ds gs before)
    (hsz : (DataW.weightsEach Try.prog (Try.f8.params.toList ++ Rows.fnQueueDrainedSpec.plain.varTypes Try.prog) (ds ++ gs)).all (· ≤ reachBytes) = true)
    (hk : Rows.uptoSmall H (ds ++ gs) = true) :
    Calls Try.prog 8 args W fun e W' => ∃ v, e = .returned v ∧ Rows.fnQueueDrainedSpec.post enc Try.prog Try.f8 false true false false W args v W' := by
  have hW' := hW
  obtain ⟨p, q, hA0, hV, rfl, _, _⟩ := hW
  have hA : DataW.TrodAll enc Try.prog W 0 (fun _ => true) true Try.f8.params.toList args.toList ds p := hA0
  rw [Try.params8] at hA hval hsz
  obtain ⟨v0, d0, rfl, rfl, h0⟩ := trodAll_one hA
  obtain ⟨rfl, rfl⟩ := trodVars_none hV
  obtain ⟨A0, c0, l0, rfl, hr0, hn0, hc0⟩ := open_stepsU (hval 0 22 v0 rfl rfl) h0 (fun elems spare he => by
    have := sized_slice hsz (j := 0) (t := 22) (e := 57) rfl (by rw [he]; rfl) Try.underlying22
    rw [bytes_lawStep] at this
    exact this)
  have hk2 := of_decide_eq_true hk
  simp only [List.append_nil, Rows.uptoBulkAll] at hk2
  have hcall : Calls Try.prog 8 #[.slice A0 l0.length c0] W (Gives W (.bool true)) := walk W A0 c0 l0 hr0 hn0 (by omega)
  refine hcall.mono fun e W' ⟨he, hb⟩ => ⟨_, he, ?_⟩
  exact law_post hW' rfl rfl rfl rfl rfl (by rw [Try.params8]; exact of_decide_eq_true (by kernel_rfl)) hb

set_option maxRecDepth 100000 in
theorem lifted (os : Os) (started : os.Started) (H : Type) (enc : TypeId × Value → H) (F : Stop.Interp) :
    ReturnsInHanded {} Try.checked os 8 .any ((Rows.OpenSpec.upto Rows.fnQueueDrainedSpec).pre6 enc Try.prog Try.f8 Rows.fnQueueDrainedUptoRow.domain false) (((Rows.OpenSpec.upto Rows.fnQueueDrainedSpec).at F).post enc Try.prog Try.f8 false true false false) := by
  refine returnsInHanded_of_cond_sized (C := Try.checked) (s := Rows.OpenSpec.upto Rows.fnQueueDrainedSpec) (k := Rows.uptoSmall) rfl own started (by kernel_rfl) Try.func8
    (OpenSpec.witness (enc := enc) (C := Try.checked) (s := Rows.OpenSpec.upto Rows.fnQueueDrainedSpec) (k := Rows.uptoSmall) rfl false ⟨#[], #[.slice none 0 0], []⟩ 8 (by kernel_rfl) (by kernel_rfl) (by kernel_rfl)
      (x := ([.nil], [], [])) (by kernel_rfl) rfl (by kernel_rfl)) ?_
  intro W base args ds gs before hval hW _ hk hsz _
  exact contract H enc W base args ds gs before hval hW hsz hk

theorem proved : Rows.FnQueueDrainedUptoSaid :=
  OpenClaim.holds_of_cond 8 Try.f8 rfl rfl rfl rfl rfl rfl rfl ⟨rfl, rfl, rfl, rfl, rfl⟩ rfl rfl rfl rfl rfl (by kernel_rfl) Try.func8 (by kernel_rfl)
    (of_decide_eq_true (by kernel_rfl)) (by unfold Func.isWrapper; first | (rw [if_pos (by decide +kernel)]; kernel_rfl) | (rw [if_neg (by decide +kernel)]; exact ⟨rfl, rfl⟩))
    (fun os started H enc _ F => lifted os started H enc F)
end Go.Proofs.Ytpjdpcpcfcohiaa.fnQueueDrained
