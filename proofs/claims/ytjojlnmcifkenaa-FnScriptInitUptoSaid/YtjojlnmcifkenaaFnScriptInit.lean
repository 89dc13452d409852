/-
  FnScriptInit returns true for all lists of numbers and any two scripts. Condition: the reach of a slice and the bound on the bulk that the statement bears.
-/
import Derived.Test.YtjojlnmcifkenaaThen
import Derived.Test.YtjojlnmcifkenaaOpenU
namespace Go.Proofs.Ytjojlnmcifkenaa.fnScriptInit
open Go.ChangeShapes Go.WideShapes Go.ChangeAt Go.RowKit Go.Shelf Go.Deep Go.Joins
open Hp (g swp Ev St plc)

theorem with_init (ss tt : List St) (m : List Int) : Hp.outA m ((ss ++ [(5, 0, 0, 0)]) ++ tt) = Hp.outA m (ss ++ tt) ∧ Hp.aftA m ((ss ++ [(5, 0, 0, 0)]) ++ tt) = Hp.aftA m (ss ++ tt) := by
  have h1 : ∀ q : List Int, Hp.outA q [(5, 0, 0, 0)] = [] ∧ Hp.aftA q [(5, 0, 0, 0)] = q := by
    intro q
    cases q <;> simp [Hp.outA, Hp.aftA, Hp.stpA]
  constructor
  · rw [Hp.outA_append, Hp.outA_append, Hp.outA_append, Hp.aftA_append, (h1 _).1, (h1 _).2]
    simp
  · rw [Hp.aftA_append, Hp.aftA_append, Hp.aftA_append, (h1 _).2]

set_option maxHeartbeats 2000000 in
set_option maxRecDepth 100000 in
theorem walk (w : World) (A : Option Addr) (c : Nat) (x : List Int) (As : Option Addr) (cs : Nat) (ss : List St) (At : Option Addr) (ct : Nat) (tt : List St) (hr : Rd w A (clsN x)) (_hn : x.length * 8 ≤ 140737488351232) (hu : x.length ≤ 1048576) (hrs : Rd w As (clsT ss)) (_hns : ss.length * 32 ≤ 140737488351232) (hus : ss.length ≤ 1048576) (hrt : Rd w At (clsT tt)) (_hnt : tt.length * 32 ≤ 140737488351232) (hut : tt.length ≤ 1048576) :
    Calls Try.prog 6 #[.slice A x.length c, .slice As ss.length cs, .slice At tt.length ct] w (Gives w (.bool true)) := by
  have HR := Lib.hid hr
  have HRS := Lib.hid hrs
  have HRT := Lib.hid hrt
  clear hr hrs hrt
  go_enter Try.func6, Try.ntmps6
  go_wp2_with fail
  refine (toStepS_any _ As _ cs ss rfl HRS.out (by omega)).mono ?_
  rintro e w1 ⟨A1, c1, rfl, ho1, hb1⟩
  have HO1 := Lib.hid (Rd.of_own ho1)
  have HB1 := Lib.hid hb1
  clear ho1 hb1
  go_wp2_with fail
  refine (toStepS_any _ At _ ct tt rfl (HRT.out.below HB1.out (Nat.le_refl _)) (by omega)).mono ?_
  rintro e w2 ⟨A2, c2, rfl, ho2, hb2⟩
  have HO1b := Lib.hid (HO1.out.below hb2 (Nat.le_refl _))
  have HO2 := Lib.hid (Rd.of_own ho2)
  have HB2 := Lib.hid (bnext HB1.out hb2)
  clear ho2 hb2 HO1 HB1
  go_wp2_with fail
  refine (then_any w2 A1 A2 _ c1 _ c2 ss tt rfl rfl HO1b.out HO2.out (by omega)).mono ?_
  rintro e w3 ⟨A3, c3, rfl, ho3, hb3⟩
  obtain ⟨J, hJ⟩ : ∃ J, J = ss ++ tt := ⟨_, rfl⟩
  rw [← hJ] at ho3 ⊢
  have hJl : J.length ≤ ss.length + tt.length := by rw [hJ]; simp
  have HO3 := Lib.hid (Rd.of_own ho3)
  have HB3 := Lib.hid (bnext HB2.out hb3)
  have HJ := Lib.hid hJ
  clear ho3 hb3 hJ HO1b HO2 HB2
  go_wp2_with fail
  refine (script_law w3 A A3 _ c _ c3 x J rfl rfl (HR.out.below HB3.out (Nat.le_refl _)) HO3.out (by omega)).mono ?_
  rintro e w4 ⟨a, b, A4, c4, A5, c5, ⟨ea, eb⟩, rfl, h1, h2, h3, h4⟩
  have hln2 := outA_length J (Hp.srt x)
  rw [← ea, ← eb, Hp.length_srt] at hln2
  obtain ⟨hal, hbl⟩ := hln2
  have HEA := Lib.hid ea
  have HEB := Lib.hid eb
  have HRA := Lib.hid (Rd.of_own h1)
  have HRB := Lib.hid (Rd.of_own h2)
  have HB4 := Lib.hid (bnext HB3.out h4)
  clear ea eb h1 h2 h3 h4 HO3 HB3
  go_wp2_with fail
  refine (toStepS_any _ As _ cs ss rfl (HRS.out.below HB4.out (Nat.le_refl _)) (by omega)).mono ?_
  rintro e w5 ⟨A6, c6, rfl, ho5, hb5⟩
  have hb6 := (Below.refl w5.heap.size w5).alloc (Nat.le_refl _) (.cells #[.int .i64 5, .int .i64 0, .int .i64 0, .int .i64 0] 36)
  have ho6 := own_frm (X := fun _ => False) ho5 (Frm.of_new hb6) (fun _ _ h => h)
  obtain ⟨A7, c7, w7, hrun, ho7, hg7⟩ := run_append_st ho6 (5, 0, 0, 0) w5.heap.size (heap_alloc_new w5 _) (by omega) (by have := hb5.size; simp; omega) 28
  have hb56 := (hb5.alloc hb5.size (.cells #[.int .i64 5, .int .i64 0, .int .i64 0, .int .i64 0] 36))
  have hb47 := hb56.grown hg7 hb56.size (fun k hk => (ho6.lt k hk).1)
  have HRUN := Lib.hid hrun
  have HO7 := Lib.hid (Rd.of_own ho7)
  have HB47 := Lib.hid hb47
  clear ho5 hb5 hb6 ho6 hrun ho7 hg7 hb56 hb47
  go_wp2_with (at_builtin; refine wpList_append_run (by rfl) (.tmp 24) (.tmp 26) 28 (by rfl) (.slice A6 ss.length c6) (.slice (some ⟨w5.heap.size, 0, none⟩) 1 1) _ _ (by rfl) (by rfl) HRUN.out ?_)
  refine (toStepS_any _ At _ ct tt rfl (HRT.out.below (bnext HB4.out HB47.out) (Nat.le_refl _)) (by omega)).mono ?_
  rintro e w8 ⟨A8, c8, rfl, ho8, hb8⟩
  obtain ⟨S1, hS1⟩ : ∃ S1, S1 = ss ++ [((5, 0, 0, 0) : St)] := ⟨_, rfl⟩
  have HS1l := Lib.hid (show ss.length + 1 = S1.length by rw [hS1]; simp)
  have hS1n : S1.length ≤ ss.length + 1 := by rw [hS1]; simp
  rw [← hS1] at HO7
  have HO7b := Lib.hid (HO7.out.below hb8 (Nat.le_refl _))
  have HO8 := Lib.hid (Rd.of_own ho8)
  have HB48 := Lib.hid (bnext HB47.out hb8)
  have HS1 := Lib.hid hS1
  clear ho8 hb8 HO7 HB47 HRUN hS1
  go_wp2_with fail
  refine (then_any w8 A7 A8 _ c7 _ c8 S1 tt HS1l.out rfl HO7b.out HO8.out (by omega)).mono ?_
  rintro e w9 ⟨A9, c9, rfl, ho9, hb9⟩
  obtain ⟨K, hK⟩ : ∃ K, K = S1 ++ tt := ⟨_, rfl⟩
  rw [← hK] at ho9 ⊢
  have hKl : K.length ≤ S1.length + tt.length := by rw [hK]; simp
  have HO9 := Lib.hid (Rd.of_own ho9)
  have HB49 := Lib.hid (bnext HB48.out hb9)
  have HB9 := Lib.hid (bnext HB4.out HB49.out)
  have hE : Hp.outA (Hp.srt x) K = a ∧ Hp.aftA (Hp.srt x) K = b := by
    have := with_init ss tt (Hp.srt x)
    rw [← HS1.out, ← hK, ← HJ.out, ← HEA.out, ← HEB.out] at this
    exact this
  have HE := Lib.hid hE
  clear ho9 hb9 hK hE HO7b HO8 HB48 HS1 HJ HEA HEB
  go_wp2_with fail
  refine (script_law w9 A A9 _ c _ c9 x K rfl rfl (HR.out.below HB9.out (Nat.le_refl _)) HO9.out (by omega)).mono ?_
  rintro e w10 ⟨a', b', A10, c10, A11, c11, ⟨ea, eb⟩, rfl, h1, h2, h3, h4⟩
  obtain ⟨e1, e2⟩ := HE.out
  rw [e1] at ea
  rw [e2] at eb
  subst ea
  subst eb
  have HRA2 := Lib.hid (Rd.of_own h1)
  have HRB2 := Lib.hid (Rd.of_own h2)
  have HB4A := Lib.hid (bnext HB49.out h4)
  have HBA := Lib.hid (bnext HB9.out h4)
  clear e1 e2 h1 h2 h3 h4 HE HO9 HB49 HB9
  go_wp2_with fail
  refine (whole_any w10 A _ c x rfl (HR.out.below HBA.out (Nat.le_refl _)) (by omega)).mono ?_
  rintro e w11 ⟨rfl, hb11⟩
  have HBAB := Lib.hid hb11
  clear hb11
  go_wp2_with fail
  refine (sameInts_eq w11 A4 A10 _ _ c4 c10 a' rfl rfl (HRA.out.below (bnext HB4A.out HBAB.out) (Nat.le_refl _)) (HRA2.out.below HBAB.out (Nat.le_refl _)) (by omega)).mono ?_
  rintro e w12 ⟨rfl, hb12⟩
  have HBAC := Lib.hid (bnext HBAB.out hb12)
  clear hb12
  go_wp2_with fail
  refine (sameInts_eq w12 A5 A11 _ _ c5 c11 b' rfl rfl (HRB.out.below (bnext HB4A.out HBAC.out) (Nat.le_refl _)) (HRB2.out.below HBAC.out (Nat.le_refl _)) (by omega)).mono ?_
  rintro e w13 ⟨rfl, hb13⟩
  have HBZ := Lib.hid (bnext (bnext HBA.out HBAC.out) hb13)
  clear hb13
  go_wp2
  go_ret
  exact ⟨rfl, HBZ.out⟩

theorem contract (H : Type) (enc : TypeId × Value → H) (W : World) (base : Nat) (args : Array Value) (ds gs : List (DataW H)) (before : List MemPlace)
    (hval : ∀ (j : Nat) t v, Try.f6.params[j]? = some t → args[j]? = some v → Value.okWide Try.prog W .any base t v)
    (hW : DataW.Whole enc Try.prog Try.f6.params.toList Rows.fnScriptInitSpec.vars false W args.toList ds gs before)
    (hsz : (DataW.weightsEach Try.prog (Try.f6.params.toList ++ Rows.fnScriptInitSpec.plain.varTypes Try.prog) (ds ++ gs)).all (· ≤ reachBytes) = true)
    (hk : Rows.uptoSmall H (ds ++ gs) = true) :
    Calls Try.prog 6 args W fun e W' => ∃ v, e = .returned v ∧ Rows.fnScriptInitSpec.post enc Try.prog Try.f6 false true false false W args v W' := by
  have hW' := hW
  obtain ⟨p, q, hA0, hV, rfl, _, _⟩ := hW
  have hA : DataW.TrodAll enc Try.prog W 0 (fun _ => true) true Try.f6.params.toList args.toList ds p := hA0
  rw [Try.params6] at hA hval hsz
  obtain ⟨v0, v1, v2, d0, d1, d2, p0, p1, p2, rfl, rfl, rfl, h0, h1, h2⟩ := trodAll_three hA
  obtain ⟨rfl, rfl⟩ := trodVars_none hV
  obtain ⟨A0, c0, l0, rfl, hr0, hn0, hc0⟩ := open_intslU (hval 0 22 v0 rfl rfl) h0 (fun elems spare he => by
    have := sized_slice hsz (j := 0) (t := 22) (e := 3) rfl (by rw [he]; rfl) Try.underlying22
    rw [bytes_int] at this
    exact this)
  obtain ⟨A1, c1, l1, rfl, hr1, hn1, hc1⟩ := open_stepsU (hval 1 23 v1 rfl rfl) h1 (fun elems spare he => by
    have := sized_slice hsz (j := 1) (t := 23) (e := 46) rfl (by rw [he]; rfl) Try.underlying23
    rw [bytes_lawStep] at this
    exact this)
  obtain ⟨A2, c2, l2, rfl, hr2, hn2, hc2⟩ := open_stepsU (hval 2 23 v2 rfl rfl) h2 (fun elems spare he => by
    have := sized_slice hsz (j := 2) (t := 23) (e := 46) rfl (by rw [he]; rfl) Try.underlying23
    rw [bytes_lawStep] at this
    exact this)
  have hk2 := of_decide_eq_true hk
  simp only [List.append_nil, Rows.uptoBulkAll] at hk2
  have hcall : Calls Try.prog 6 #[.slice A0 l0.length c0, .slice A1 l1.length c1, .slice A2 l2.length c2] W (Gives W (.bool true)) := walk W A0 c0 l0 A1 c1 l1 A2 c2 l2 hr0 hn0 (by omega) hr1 hn1 (by omega) hr2 hn2 (by omega)
  refine hcall.mono fun e W' ⟨he, hb⟩ => ⟨_, he, ?_⟩
  exact law_post hW' rfl rfl rfl rfl rfl (by rw [Try.params6]; exact of_decide_eq_true (by kernel_rfl)) hb

set_option maxRecDepth 100000 in
theorem lifted (os : Os) (started : os.Started) (H : Type) (enc : TypeId × Value → H) (F : Stop.Interp) :
    ReturnsInHanded {} Try.checked os 6 .any ((Rows.OpenSpec.upto Rows.fnScriptInitSpec).pre6 enc Try.prog Try.f6 Rows.fnScriptInitUptoRow.domain false) (((Rows.OpenSpec.upto Rows.fnScriptInitSpec).at F).post enc Try.prog Try.f6 false true false false) := by
  refine returnsInHanded_of_cond_sized (C := Try.checked) (s := Rows.OpenSpec.upto Rows.fnScriptInitSpec) (k := Rows.uptoSmall) rfl own started (by kernel_rfl) Try.func6
    (OpenSpec.witness (enc := enc) (C := Try.checked) (s := Rows.OpenSpec.upto Rows.fnScriptInitSpec) (k := Rows.uptoSmall) rfl false ⟨#[], #[.slice none 0 0, .slice none 0 0, .slice none 0 0], []⟩ 8 (by kernel_rfl) (by kernel_rfl) (by kernel_rfl)
      (x := ([.nil, .nil, .nil], [], [])) (by kernel_rfl) rfl (by kernel_rfl)) ?_
  intro W base args ds gs before hval hW _ hk hsz _
  exact contract H enc W base args ds gs before hval hW hsz hk

theorem proved : Rows.FnScriptInitUptoSaid :=
  OpenClaim.holds_of_cond 6 Try.f6 rfl rfl rfl rfl rfl rfl rfl ⟨rfl, rfl, rfl, rfl, rfl⟩ rfl rfl rfl rfl rfl (by kernel_rfl) Try.func6 (by kernel_rfl)
    (of_decide_eq_true (by kernel_rfl)) (by unfold Func.isWrapper; first | (rw [if_pos (by decide +kernel)]; kernel_rfl) | (rw [if_neg (by decide +kernel)]; exact ⟨rfl, rfl⟩))
    (fun os started H enc _ F => lifted os started H enc F)
end Go.Proofs.Ytjojlnmcifkenaa.fnScriptInit
