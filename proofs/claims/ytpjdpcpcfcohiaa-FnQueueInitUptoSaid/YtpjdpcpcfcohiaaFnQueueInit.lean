/-
  FnQueueInit returns true for any two scripts. Condition: the reach of a slice and the bound on the bulk that the statement bears.
-/
import Derived.Test.YtpjdpcpcfcohiaaDeskL
import Derived.Test.YtpjdpcpcfcohiaaOpenU
namespace Go.Proofs.Ytpjdpcpcfcohiaa.fnQueueInit
open Go.ChangeShapes Go.WideShapes Go.ChangeAt Go.RowKit Go.Shelf Go.Deep Go.Joins
open Hp (g swp Ev St plc qOut qRest pushed nums)

theorem init_same (a b : List St) : qOut (a ++ [(5, 0, 0, 0)] ++ b) = qOut (a ++ b) ∧ qRest (a ++ [(5, 0, 0, 0)] ++ b) = qRest (a ++ b) := by
  obtain ⟨h1, h2⟩ := Hp.init_between a b 0 0 0
  exact ⟨h1, by unfold Hp.qRest; rw [h2]⟩

set_option maxHeartbeats 2000000 in
set_option maxRecDepth 100000 in
theorem walk (w : World) (As : Option Addr) (cs : Nat) (ss : List St) (At : Option Addr) (ct : Nat) (tt : List St) (hrs : Rd w As (clsT ss)) (_hns : ss.length * 32 ≤ 140737488351232) (hu : ss.length ≤ 1048576) (hrt : Rd w At (clsT tt)) (_hnt : tt.length * 32 ≤ 140737488351232) (hut : tt.length ≤ 1048576) :
    Calls Try.prog 9 #[.slice As ss.length cs, .slice At tt.length ct] w (Gives w (.bool true)) := by
  have HRS := Lib.hid hrs
  have HRT := Lib.hid hrt
  clear hrs _hns hrt _hnt
  go_enter Try.func9, Try.ntmps9
  go_wp2_with fail
  refine (toStepS_any _ As _ cs ss rfl HRS.out (by omega)).mono ?_
  rintro e w1 ⟨A1, c1, rfl, ho1, hb1⟩
  have HO1 := Lib.hid (Rd.of_own ho1)
  have HB1 := Lib.hid hb1
  clear ho1 hb1
  go_wp2_with fail
  refine (toStepS_any _ At _ ct tt rfl (HRT.out.below HB1.out (Nat.le_refl _)) (by omega)).mono ?_
  rintro e w2 ⟨A2, c2, rfl, ho2, hb2⟩
  have HO1b := Lib.hid (HO1.out.below hb2 (Nat.le_refl _))
  have HO2 := Lib.hid (Rd.of_own ho2)
  have HB2 := Lib.hid (bnext HB1.out hb2)
  clear ho2 hb2 HO1 HB1
  go_wp2_with fail
  refine (then_any w2 A1 A2 _ c1 _ c2 ss tt rfl rfl HO1b.out HO2.out (by omega)).mono ?_
  rintro e w3 ⟨A3, c3, rfl, ho3, hb3⟩
  obtain ⟨J, hJ⟩ : ∃ J, J = ss ++ tt := ⟨_, rfl⟩
  rw [← hJ] at ho3 ⊢
  have hJl : J.length ≤ ss.length + tt.length := by rw [hJ]; simp
  have HO3 := Lib.hid (Rd.of_own ho3)
  have HB3 := Lib.hid (bnext HB2.out hb3)
  have HJ := Lib.hid hJ
  clear ho3 hb3 hJ HO1b HO2 HB2
  go_wp2_with fail
  refine (toStepS_any _ As _ cs ss rfl (HRS.out.below HB3.out (Nat.le_refl _)) (by omega)).mono ?_
  rintro e w4 ⟨A4, c4, rfl, ho4, hb4⟩
  have hz := heap_alloc_new w4 (.cells #[.int .i64 5, .int .i64 0, .int .i64 0, .int .i64 0] 36)
  obtain ⟨A5, c5, w5, hrun, ho5, hg5⟩ := run_append_st (ho4.alloc (.cells #[.int .i64 5, .int .i64 0, .int .i64 0, .int .i64 0] 36)) ((5 : Int), (0 : Int), (0 : Int), (0 : Int)) w4.heap.size hz (by omega) (by have := hb4.size; simp; omega) 26
  obtain ⟨M5, hM5⟩ : ∃ M5, M5 = ss ++ [((5 : Int), (0 : Int), (0 : Int), (0 : Int))] := ⟨_, rfl⟩
  have hM5l : M5.length = ss.length + 1 := by rw [hM5]; simp
  rw [← hM5, ← hM5l] at ho5
  rw [← hM5l] at hrun
  have hb5 : Below w3.heap.size w3 w5 := (hb4.alloc hb4.size _).grown hg5 (by have := hb4.size; simp; omega) (fun k hk => (ho4.lt k hk).1)
  have HRUN := Lib.hid hrun
  have HO5 := Lib.hid (Rd.of_own ho5)
  have HB35 := Lib.hid hb5
  have HM5 := Lib.hid hM5
  have hM5s : M5.length ≤ ss.length + 1 := by omega
  clear ho4 hb4 hz hrun ho5 hg5 hb5 hM5 hM5l
  go_wp2_with (at_builtin; refine wpList_append_run rfl _ _ _ rfl _ _ _ _ rfl rfl HRUN.out ?_)
  refine (toStepS_any w5 At _ ct tt rfl (HRT.out.below (bnext HB3.out HB35.out) (Nat.le_refl _)) (by omega)).mono ?_
  rintro e w6 ⟨A6, c6, rfl, ho6, hb6⟩
  have HO5b := Lib.hid (HO5.out.below hb6 (Nat.le_refl _))
  have HO6 := Lib.hid (Rd.of_own ho6)
  have HB36 := Lib.hid (bnext HB35.out hb6)
  clear ho6 hb6 HO5 HB35 HRUN
  go_wp2_with fail
  refine (then_any w6 A5 A6 _ c5 _ c6 M5 tt rfl rfl HO5b.out HO6.out (by omega)).mono ?_
  rintro e w7 ⟨A7, c7, rfl, ho7, hb7⟩
  obtain ⟨M, hM⟩ : ∃ M, M = M5 ++ tt := ⟨_, rfl⟩
  rw [← hM] at ho7 ⊢
  have hMl : M.length ≤ ss.length + tt.length + 1 := by rw [hM, List.length_append]; omega
  have HO7 := Lib.hid (Rd.of_own ho7)
  have HB37 := Lib.hid (bnext HB36.out hb7)
  have hsame : qOut M = qOut J ∧ qRest M = qRest J := by
    rw [hM, HM5.out, HJ.out]
    exact init_same ss tt
  have HSM := Lib.hid hsame
  have HPJ := Lib.hid (show pushed J = pushed ss + pushed tt by rw [HJ.out, Hp.pushed_append])
  have hp1 := Hp.pushed_le ss
  have hp2 := Hp.pushed_le tt
  clear ho7 hb7 hM hsame HO5b HO6 HB36 HM5 HJ
  go_wp2_with fail
  refine (queue_law w7 A3 _ c3 J rfl (HO3.out.below HB37.out (Nat.le_refl _)) (by omega)).mono ?_
  rintro e w8 ⟨a, A8, c8, ea, rfl, ho8, hb8⟩
  have HEA := Lib.hid ea
  have HB78 := Lib.hid hb8
  clear ea ho8 hb8
  go_wp2_with fail
  refine (rest_law w8 A3 _ c3 J rfl (HO3.out.below (bnext HB37.out HB78.out) (Nat.le_refl _)) (by omega)).mono ?_
  rintro e w9 ⟨b, A9, c9, eb, rfl, ho9, hb9⟩
  have hl0 : a.length + b.length = pushed ss + pushed tt := by rw [HEA.out, eb, ← HPJ.out]; exact Hp.qLen J
  have hl1 : (((a.length : Int) + (b.length : Int)) == (((pushed ss : Nat) : Int) + ((pushed tt : Nat) : Int))) = true := by
    rw [beq_iff_eq]; omega
  have hal : a.length + b.length ≤ ss.length + tt.length := by omega
  have HEB := Lib.hid eb
  have HB79 := Lib.hid (bnext HB78.out hb9)
  clear eb ho9 hb9 hl0 HB78 HPJ
  go_wp2_with fail
  refine (made_any w9 As ss.length cs ss rfl (HRS.out.below (bnext (bnext HB3.out HB37.out) HB79.out) (Nat.le_refl _)) (by omega)).mono ?_
  rintro e w10 ⟨rfl, hb10⟩
  have HB7A := Lib.hid (bnext HB79.out hb10)
  clear hb10 HB79
  go_wp2_with fail
  refine (made_any w10 At tt.length ct tt rfl (HRT.out.below (bnext (bnext HB3.out HB37.out) HB7A.out) (Nat.le_refl _)) (by omega)).mono ?_
  rintro e w11 ⟨rfl, hb11⟩
  have HB7B := Lib.hid (bnext HB7A.out hb11)
  clear hb11 HB7A
  go_wp2_with fail
  refine (queue_law w11 A3 _ c3 J rfl (HO3.out.below (bnext HB37.out HB7B.out) (Nat.le_refl _)) (by omega)).mono ?_
  rintro e w12 ⟨a2, A12, c12, ea2, rfl, ho12, hb12⟩
  have HE2 := Lib.hid ea2
  have HR12 := Lib.hid (Rd.of_own ho12)
  have HBBC := Lib.hid hb12
  clear ea2 ho12 hb12
  go_wp2_with fail
  refine (queue_law w12 A7 _ c7 M rfl (HO7.out.below (bnext HB7B.out HBBC.out) (Nat.le_refl _)) (by omega)).mono ?_
  rintro e w13 ⟨a3, A13, c13, ea3, rfl, ho13, hb13⟩
  obtain rfl : a3 = a2 := by rw [ea3, HSM.out.1, HE2.out]
  have ha3 : a3.length ≤ ss.length + tt.length := by have h9 : a3.length = a.length := by rw [HE2.out, HEA.out]
                                                     omega
  have HR13 := Lib.hid (Rd.of_own ho13)
  have HBCD := Lib.hid hb13
  clear ea3 ho13 hb13 HE2
  go_wp2_with fail
  refine (sameItems_eq w13 A12 A13 _ _ c12 c13 a3 rfl rfl (HR12.out.below HBCD.out (Nat.le_refl _)) HR13.out (by omega)).mono ?_
  rintro e w14 ⟨rfl, hb14⟩
  have HB7E := Lib.hid (bnext (bnext (bnext HB7B.out HBBC.out) HBCD.out) hb14)
  clear hb14 HB7B HBBC HBCD HR12 HR13
  go_wp2_with fail
  refine (rest_law w14 A3 _ c3 J rfl (HO3.out.below (bnext HB37.out HB7E.out) (Nat.le_refl _)) (by omega)).mono ?_
  rintro e w15 ⟨b2, A15, c15, eb2, rfl, ho15, hb15⟩
  have HE2 := Lib.hid eb2
  have HR15 := Lib.hid (Rd.of_own ho15)
  have HBEF := Lib.hid hb15
  clear eb2 ho15 hb15
  go_wp2_with fail
  refine (rest_law w15 A7 _ c7 M rfl (HO7.out.below (bnext HB7E.out HBEF.out) (Nat.le_refl _)) (by omega)).mono ?_
  rintro e w16 ⟨b3, A16, c16, eb3, rfl, ho16, hb16⟩
  obtain rfl : b3 = b2 := by rw [eb3, HSM.out.2, HE2.out]
  have hb3 : b3.length ≤ ss.length + tt.length := by have h9 : b3.length = b.length := by rw [HE2.out, HEB.out]
                                                     omega
  have HR16 := Lib.hid (Rd.of_own ho16)
  have HBFG := Lib.hid hb16
  clear eb3 ho16 hb16 HE2
  go_wp2_with fail
  refine (sameItems_eq w16 A15 A16 _ _ c15 c16 b3 rfl rfl (HR15.out.below HBFG.out (Nat.le_refl _)) HR16.out (by omega)).mono ?_
  rintro e w17 ⟨rfl, hb17⟩
  have HBZ := Lib.hid (bnext (bnext (bnext (bnext (bnext HB3.out HB37.out) HB7E.out) HBEF.out) HBFG.out) hb17)
  clear hb17
  go_wp2
  go_ret
  exact ⟨rfl, HBZ.out⟩

theorem contract (H : Type) (enc : TypeId × Value → H) (W : World) (base : Nat) (args : Array Value) (ds gs : List (DataW H)) (before : List MemPlace)
    (hval : ∀ (j : Nat) t v, Try.f9.params[j]? = some t → args[j]? = some v → Value.okWide Try.prog W .any base t v)
    (hW : DataW.Whole enc Try.prog Try.f9.params.toList Rows.fnQueueInitSpec.vars false W args.toList ds gs before)
    (hsz : (DataW.weightsEach Try.prog (Try.f9.params.toList ++ Rows.fnQueueInitSpec.plain.varTypes Try.prog) (ds ++ gs)).all (· ≤ reachBytes) = true)
    (hk : Rows.uptoSmall H (ds ++ gs) = true) :
    Calls Try.prog 9 args W fun e W' => ∃ v, e = .returned v ∧ Rows.fnQueueInitSpec.post enc Try.prog Try.f9 false true false false W args v W' := by
  have hW' := hW
  obtain ⟨p, q, hA0, hV, rfl, _, _⟩ := hW
  have hA : DataW.TrodAll enc Try.prog W 0 (fun _ => true) true Try.f9.params.toList args.toList ds p := hA0
  rw [Try.params9] at hA hval hsz
  obtain ⟨v0, v1, d0, d1, p0, p1, rfl, rfl, rfl, h0, h1⟩ := trodAll_two hA
  obtain ⟨rfl, rfl⟩ := trodVars_none hV
  obtain ⟨A0, c0, l0, rfl, hr0, hn0, hc0⟩ := open_stepsU (hval 0 22 v0 rfl rfl) h0 (fun elems spare he => by
    have := sized_slice hsz (j := 0) (t := 22) (e := 57) rfl (by rw [he]; rfl) Try.underlying22
    rw [bytes_lawStep] at this
    exact this)
  obtain ⟨A1, c1, l1, rfl, hr1, hn1, hc1⟩ := open_stepsU (hval 1 22 v1 rfl rfl) h1 (fun elems spare he => by
    have := sized_slice hsz (j := 1) (t := 22) (e := 57) rfl (by rw [he]; rfl) Try.underlying22
    rw [bytes_lawStep] at this
    exact this)
  have hk2 := of_decide_eq_true hk
  simp only [List.append_nil, Rows.uptoBulkAll] at hk2
  have hcall : Calls Try.prog 9 #[.slice A0 l0.length c0, .slice A1 l1.length c1] W (Gives W (.bool true)) := walk W A0 c0 l0 A1 c1 l1 hr0 hn0 (by omega) hr1 hn1 (by omega)
  refine hcall.mono fun e W' ⟨he, hb⟩ => ⟨_, he, ?_⟩
  exact law_post hW' rfl rfl rfl rfl rfl (by rw [Try.params9]; exact of_decide_eq_true (by kernel_rfl)) hb

set_option maxRecDepth 100000 in
theorem lifted (os : Os) (started : os.Started) (H : Type) (enc : TypeId × Value → H) (F : Stop.Interp) :
    ReturnsInHanded {} Try.checked os 9 .any ((Rows.OpenSpec.upto Rows.fnQueueInitSpec).pre6 enc Try.prog Try.f9 Rows.fnQueueInitUptoRow.domain false) (((Rows.OpenSpec.upto Rows.fnQueueInitSpec).at F).post enc Try.prog Try.f9 false true false false) := by
  refine returnsInHanded_of_cond_sized (C := Try.checked) (s := Rows.OpenSpec.upto Rows.fnQueueInitSpec) (k := Rows.uptoSmall) rfl own started (by kernel_rfl) Try.func9
    (OpenSpec.witness (enc := enc) (C := Try.checked) (s := Rows.OpenSpec.upto Rows.fnQueueInitSpec) (k := Rows.uptoSmall) rfl false ⟨#[], #[.slice none 0 0, .slice none 0 0], []⟩ 8 (by kernel_rfl) (by kernel_rfl) (by kernel_rfl)
      (x := ([.nil, .nil], [], [])) (by kernel_rfl) rfl (by kernel_rfl)) ?_
  intro W base args ds gs before hval hW _ hk hsz _
  exact contract H enc W base args ds gs before hval hW hsz hk

theorem proved : Rows.FnQueueInitUptoSaid :=
  OpenClaim.holds_of_cond 9 Try.f9 rfl rfl rfl rfl rfl rfl rfl ⟨rfl, rfl, rfl, rfl, rfl⟩ rfl rfl rfl rfl rfl (by kernel_rfl) Try.func9 (by kernel_rfl)
    (of_decide_eq_true (by kernel_rfl)) (by unfold Func.isWrapper; first | (rw [if_pos (by decide +kernel)]; kernel_rfl) | (rw [if_neg (by decide +kernel)]; exact ⟨rfl, rfl⟩))
    (fun os started H enc _ F => lifted os started H enc F)
end Go.Proofs.Ytpjdpcpcfcohiaa.fnQueueInit
