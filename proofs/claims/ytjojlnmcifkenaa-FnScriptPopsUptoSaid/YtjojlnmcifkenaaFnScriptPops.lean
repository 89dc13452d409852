/-
  FnScriptPops returns true for every list of numbers. Condition: the reach of a slice and the bound on the bulk that the statement bears.
-/
import Derived.Test.YtjojlnmcifkenaaThen
import Derived.Test.YtjojlnmcifkenaaSortI
import Derived.Test.YtjojlnmcifkenaaOpenU
namespace Go.Proofs.Ytjojlnmcifkenaa.fnScriptPops
open Go.ChangeShapes Go.WideShapes Go.ChangeAt Go.RowKit Go.Shelf Go.Deep Go.Joins
open Hp (g swp Ev St plc)

theorem pops_all (m : List Int) : Hp.outA m (List.replicate m.length stPop) = m ∧ Hp.aftA m (List.replicate m.length stPop) = [] := by
  induction m with
  | nil => exact ⟨rfl, rfl⟩
  | cons a m ih =>
    rw [List.length_cons, List.replicate_succ]
    unfold Hp.outA Hp.aftA
    have e : Hp.stpA stPop (a :: m) = (m, [a]) := by simp [Hp.stpA, stPop]
    rw [e]
    simp only
    exact ⟨by rw [ih.1]; rfl, ih.2⟩

set_option maxHeartbeats 2000000 in
set_option maxRecDepth 100000 in
theorem walk (w : World) (A : Option Addr) (c : Nat) (x : List Int) (hr : Rd w A (clsN x)) (_hn : x.length * 8 ≤ 140737488351232) (hu : x.length ≤ 1048576) :
    Calls Try.prog 10 #[.slice A x.length c] w (Gives w (.bool true)) := by
  have HR := Lib.hid hr
  clear hr
  go_enter Try.func10, Try.ntmps10
  go_wp2_with fail
  refine (pops_any _ x.length (by omega)).mono ?_
  rintro e w1 ⟨A1, c1, rfl, ho1, hb1⟩
  obtain ⟨SS, hSS⟩ : ∃ SS, SS = List.replicate x.length stPop := ⟨_, rfl⟩
  rw [← hSS] at ho1 ⊢
  have hSl : SS.length ≤ x.length := by rw [hSS]; simp
  have HRS := Lib.hid (Rd.of_own ho1)
  have HB1 := Lib.hid hb1
  obtain ⟨e1, e2⟩ := pops_all (Hp.srt x)
  rw [Hp.length_srt, ← hSS] at e1 e2
  have HE := Lib.hid (And.intro e1 e2)
  clear ho1 hb1 hSS e1 e2
  go_wp2_with fail
  refine (script_law w1 A A1 _ c _ c1 x SS rfl rfl (HR.out.below HB1.out (Nat.le_refl _)) HRS.out (by omega)).mono ?_
  rintro e w2 ⟨a, b, A3, c3, A4, c4, ⟨ea, eb⟩, rfl, h1, h2, h3, h4⟩
  obtain ⟨e1, e2⟩ := HE.out
  rw [e1] at ea
  rw [e2] at eb
  have ha : ((a.length : Int) == (x.length : Int)) = true := by rw [ea, Hp.length_srt]; simp
  have hb : ((b.length : Int) == 0) = true := by rw [eb]; rfl
  have hal : a.length ≤ x.length := by rw [ea, Hp.length_srt]; omega
  have HB2 := Lib.hid (bnext HB1.out h4)
  have HRA := Lib.hid (Rd.of_own h1)
  have hcs := heapSortInts_any w2 A x.length c x rfl (HR.out.below HB2.out (Nat.le_refl _)) (by omega)
  rw [← ea] at hcs
  have HCS := Lib.hid hcs
  clear e1 e2 ea eb h1 h2 h3 h4 hcs HE
  go_wp2_with fail
  refine HCS.out.mono ?_
  rintro e w4 ⟨A5, c5, rfl, ho4, hb4⟩
  have HB4 := Lib.hid hb4
  have HR4 := Lib.hid (Rd.of_own ho4)
  clear ho4 hb4
  go_wp2_with fail
  refine (sameInts_eq w4 A3 A5 _ _ c3 c5 a rfl rfl (HRA.out.below HB4.out (Nat.le_refl _)) HR4.out (by omega)).mono ?_
  rintro e w6 ⟨rfl, hb6⟩
  have HB6 := Lib.hid (bnext (bnext HB2.out HB4.out) hb6)
  clear hb6
  go_wp2
  go_ret
  exact ⟨rfl, HB6.out⟩

theorem contract (H : Type) (enc : TypeId × Value → H) (W : World) (base : Nat) (args : Array Value) (ds gs : List (DataW H)) (before : List MemPlace)
    (hval : ∀ (j : Nat) t v, Try.f10.params[j]? = some t → args[j]? = some v → Value.okWide Try.prog W .any base t v)
    (hW : DataW.Whole enc Try.prog Try.f10.params.toList Rows.fnScriptPopsSpec.vars false W args.toList ds gs before)
    (hsz : (DataW.weightsEach Try.prog (Try.f10.params.toList ++ Rows.fnScriptPopsSpec.plain.varTypes Try.prog) (ds ++ gs)).all (· ≤ reachBytes) = true)
    (hk : Rows.uptoSmall H (ds ++ gs) = true) :
    Calls Try.prog 10 args W fun e W' => ∃ v, e = .returned v ∧ Rows.fnScriptPopsSpec.post enc Try.prog Try.f10 false true false false W args v W' := by
  have hW' := hW
  obtain ⟨p, q, hA0, hV, rfl, _, _⟩ := hW
  have hA : DataW.TrodAll enc Try.prog W 0 (fun _ => true) true Try.f10.params.toList args.toList ds p := hA0
  rw [Try.params10] at hA hval hsz
  obtain ⟨v0, d0, rfl, rfl, h0⟩ := trodAll_one hA
  obtain ⟨rfl, rfl⟩ := trodVars_none hV
  obtain ⟨A0, c0, l0, rfl, hr0, hn0, hc0⟩ := open_intslU (hval 0 22 v0 rfl rfl) h0 (fun elems spare he => by
    have := sized_slice hsz (j := 0) (t := 22) (e := 3) rfl (by rw [he]; rfl) Try.underlying22
    rw [bytes_int] at this
    exact this)
  have hk2 := of_decide_eq_true hk
  simp only [List.append_nil, Rows.uptoBulkAll] at hk2
  have hcall : Calls Try.prog 10 #[.slice A0 l0.length c0] W (Gives W (.bool true)) := walk W A0 c0 l0 hr0 hn0 (by omega)
  refine hcall.mono fun e W' ⟨he, hb⟩ => ⟨_, he, ?_⟩
  exact law_post hW' rfl rfl rfl rfl rfl (by rw [Try.params10]; exact of_decide_eq_true (by kernel_rfl)) hb

set_option maxRecDepth 100000 in
theorem lifted (os : Os) (started : os.Started) (H : Type) (enc : TypeId × Value → H) (F : Stop.Interp) :
    ReturnsInHanded {} Try.checked os 10 .any ((Rows.OpenSpec.upto Rows.fnScriptPopsSpec).pre6 enc Try.prog Try.f10 Rows.fnScriptPopsUptoRow.domain false) (((Rows.OpenSpec.upto Rows.fnScriptPopsSpec).at F).post enc Try.prog Try.f10 false true false false) := by
  refine returnsInHanded_of_cond_sized (C := Try.checked) (s := Rows.OpenSpec.upto Rows.fnScriptPopsSpec) (k := Rows.uptoSmall) rfl own started (by kernel_rfl) Try.func10
    (OpenSpec.witness (enc := enc) (C := Try.checked) (s := Rows.OpenSpec.upto Rows.fnScriptPopsSpec) (k := Rows.uptoSmall) rfl false ⟨#[], #[.slice none 0 0], []⟩ 8 (by kernel_rfl) (by kernel_rfl) (by kernel_rfl)
      (x := ([.nil], [], [])) (by kernel_rfl) rfl (by kernel_rfl)) ?_
  intro W base args ds gs before hval hW _ hk hsz _
  exact contract H enc W base args ds gs before hval hW hsz hk

theorem proved : Rows.FnScriptPopsUptoSaid :=
  OpenClaim.holds_of_cond 10 Try.f10 rfl rfl rfl rfl rfl rfl rfl ⟨rfl, rfl, rfl, rfl, rfl⟩ rfl rfl rfl rfl rfl (by kernel_rfl) Try.func10 (by kernel_rfl)
    (of_decide_eq_true (by kernel_rfl)) (by unfold Func.isWrapper; first | (rw [if_pos (by decide +kernel)]; kernel_rfl) | (rw [if_neg (by decide +kernel)]; exact ⟨rfl, rfl⟩))
    (fun os started H enc _ F => lifted os started H enc F)
end Go.Proofs.Ytjojlnmcifkenaa.fnScriptPops
