/-
  FnMerge returns true for any two lists of numbers. Condition: the reach of a slice and the bound on the bulk that the statement bears.
-/
import Derived.Test.YtjojlnmcifkenaaThen
import Derived.Test.YtjojlnmcifkenaaSortI
import Derived.Test.YtjojlnmcifkenaaOpenU
namespace Go.Proofs.Ytjojlnmcifkenaa.fnMerge
open Go.ChangeShapes Go.WideShapes Go.ChangeAt Go.RowKit Go.Shelf Go.Deep Go.Joins
open Hp (g swp Ev St plc)

theorem push_all (b : List Int) (m : List Int) (hm : m.Pairwise (· ≤ ·)) : Hp.outA m (b.map stPush) = [] ∧ Hp.aftA m (b.map stPush) = Hp.srt (m ++ b) := by
  induction b generalizing m with
  | nil => exact ⟨rfl, by rw [List.append_nil, Hp.srt_sorted hm]; rfl⟩
  | cons v b ih =>
    rw [List.map_cons]
    unfold Hp.outA Hp.aftA
    have e : Hp.stpA (stPush v) m = (Hp.ins v m, []) := by simp [Hp.stpA, stPush]
    rw [e]
    simp only
    obtain ⟨h1, h2⟩ := ih (Hp.ins v m) (Hp.sorted_ins v m hm)
    refine ⟨by rw [h1]; rfl, ?_⟩
    rw [h2]
    apply Hp.srt_perm
    refine ((Hp.perm_ins v m).append_right b).trans ?_
    exact List.perm_middle.symm
theorem merge_plain (a b : List Int) : Hp.outA (Hp.srt a) (b.map stPush) = [] ∧ Hp.aftA (Hp.srt a) (b.map stPush) = Hp.srt (a ++ b) := by
  obtain ⟨h1, h2⟩ := push_all b (Hp.srt a) (Hp.sorted_srt a)
  refine ⟨h1, ?_⟩
  rw [h2]
  exact Hp.srt_perm ((Hp.perm_srt a).append_right b)

set_option maxHeartbeats 2000000 in
set_option maxRecDepth 100000 in
theorem walk (w : World) (A : Option Addr) (c : Nat) (x : List Int) (Ay : Option Addr) (cy : Nat) (y : List Int) (hr : Rd w A (clsN x)) (_hn : x.length * 8 ≤ 140737488351232) (hu : x.length ≤ 1048576) (hry : Rd w Ay (clsN y)) (_hny : y.length * 8 ≤ 140737488351232) (huy : y.length ≤ 1048576) :
    Calls Try.prog 8 #[.slice A x.length c, .slice Ay y.length cy] w (Gives w (.bool true)) := by
  have HR := Lib.hid hr
  have HRY := Lib.hid hry
  clear hr hry
  go_enter Try.func8, Try.ntmps8
  go_wp2_with fail
  refine (pushes_any _ Ay _ cy y rfl HRY.out (by omega)).mono ?_
  rintro e w1 ⟨A1, c1, rfl, ho1, hb1⟩
  obtain ⟨SS, hSS⟩ : ∃ SS, SS = y.map stPush := ⟨_, rfl⟩
  rw [← hSS] at ho1 ⊢
  have hSl : SS.length ≤ y.length := by rw [hSS]; simp
  have HRS := Lib.hid (Rd.of_own ho1)
  have HB1 := Lib.hid hb1
  obtain ⟨e1, e2⟩ := merge_plain x y
  rw [← hSS] at e1 e2
  have HE := Lib.hid (And.intro e1 e2)
  clear ho1 hb1 hSS e1 e2
  go_wp2_with fail
  refine (script_law w1 A A1 _ c _ c1 x SS rfl rfl (HR.out.below HB1.out (Nat.le_refl _)) HRS.out (by omega)).mono ?_
  rintro e w2 ⟨a, b, A3, c3, A4, c4, ⟨ea, eb⟩, rfl, h1, h2, h3, h4⟩
  obtain ⟨e1, e2⟩ := HE.out
  rw [e1] at ea
  rw [e2] at eb
  have ha : ((a.length : Int) == 0) = true := by rw [ea]; rfl
  have hb : ((b.length : Int) == (x.length : Int) + (y.length : Int)) = true := by rw [eb, Hp.length_srt]; simp
  have hbl : b.length ≤ x.length + y.length := by rw [eb, Hp.length_srt]; simp
  have hwr : IntKind.i64.wrap ((x.length : Int) + (y.length : Int)) = (x.length : Int) + (y.length : Int) := by simp [IntKind.wrap, IntKind.bits, IntKind.signed]; omega
  have HB2 := Lib.hid (bnext HB1.out h4)
  have HRB := Lib.hid (Rd.of_own h2)
  have HEB := Lib.hid eb
  clear e1 e2 ea eb h1 h2 h3 h4 HE
  go_wp2_with fail
  refine (joined_any w2 A Ay _ c _ cy x y rfl rfl (HR.out.below HB2.out (Nat.le_refl _)) (HRY.out.below HB2.out (Nat.le_refl _)) (by omega)).mono ?_
  rintro e w3 ⟨A5, c5, rfl, ho3, hb3⟩
  obtain ⟨J, hJ⟩ : ∃ J, J = x ++ y := ⟨_, rfl⟩
  rw [← hJ] at ho3 ⊢
  have hJl : J.length ≤ x.length + y.length := by rw [hJ]; simp
  have HB3 := Lib.hid hb3
  have hcs := heapSortInts_any w3 A5 J.length c5 J rfl (Rd.of_own ho3) (by omega)
  rw [hJ, ← HEB.out, ← hJ] at hcs
  have HCS := Lib.hid hcs
  clear ho3 hb3 hcs hJ
  go_wp2_with fail
  refine HCS.out.mono ?_
  rintro e w4 ⟨A6, c6, rfl, ho4, hb4⟩
  have HB4 := Lib.hid (bnext HB3.out hb4)
  have HR4 := Lib.hid (Rd.of_own ho4)
  clear ho4 hb4
  go_wp2_with fail
  refine (sameInts_eq w4 A4 A6 _ _ c4 c6 b rfl rfl (HRB.out.below HB4.out (Nat.le_refl _)) HR4.out (by omega)).mono ?_
  rintro e w6 ⟨rfl, hb6⟩
  have HB6 := Lib.hid (bnext (bnext HB2.out HB4.out) hb6)
  clear hb6
  go_wp2
  go_ret
  exact ⟨rfl, HB6.out⟩

theorem contract (H : Type) (enc : TypeId × Value → H) (W : World) (base : Nat) (args : Array Value) (ds gs : List (DataW H)) (before : List MemPlace)
    (hval : ∀ (j : Nat) t v, Try.f8.params[j]? = some t → args[j]? = some v → Value.okWide Try.prog W .any base t v)
    (hW : DataW.Whole enc Try.prog Try.f8.params.toList Rows.fnMergeSpec.vars false W args.toList ds gs before)
    (hsz : (DataW.weightsEach Try.prog (Try.f8.params.toList ++ Rows.fnMergeSpec.plain.varTypes Try.prog) (ds ++ gs)).all (· ≤ reachBytes) = true)
    (hk : Rows.uptoSmall H (ds ++ gs) = true) :
    Calls Try.prog 8 args W fun e W' => ∃ v, e = .returned v ∧ Rows.fnMergeSpec.post enc Try.prog Try.f8 false true false false W args v W' := by
  have hW' := hW
  obtain ⟨p, q, hA0, hV, rfl, _, _⟩ := hW
  have hA : DataW.TrodAll enc Try.prog W 0 (fun _ => true) true Try.f8.params.toList args.toList ds p := hA0
  rw [Try.params8] at hA hval hsz
  obtain ⟨v0, v1, d0, d1, p0, p1, rfl, rfl, rfl, h0, h1⟩ := trodAll_two hA
  obtain ⟨rfl, rfl⟩ := trodVars_none hV
  obtain ⟨A0, c0, l0, rfl, hr0, hn0, hc0⟩ := open_intslU (hval 0 22 v0 rfl rfl) h0 (fun elems spare he => by
    have := sized_slice hsz (j := 0) (t := 22) (e := 3) rfl (by rw [he]; rfl) Try.underlying22
    rw [bytes_int] at this
    exact this)
  obtain ⟨A1, c1, l1, rfl, hr1, hn1, hc1⟩ := open_intslU (hval 1 22 v1 rfl rfl) h1 (fun elems spare he => by
    have := sized_slice hsz (j := 1) (t := 22) (e := 3) rfl (by rw [he]; rfl) Try.underlying22
    rw [bytes_int] at this
    exact this)
  have hk2 := of_decide_eq_true hk
  simp only [List.append_nil, Rows.uptoBulkAll] at hk2
  have hcall : Calls Try.prog 8 #[.slice A0 l0.length c0, .slice A1 l1.length c1] W (Gives W (.bool true)) := walk W A0 c0 l0 A1 c1 l1 hr0 hn0 (by omega) hr1 hn1 (by omega)
  refine hcall.mono fun e W' ⟨he, hb⟩ => ⟨_, he, ?_⟩
  exact law_post hW' rfl rfl rfl rfl rfl (by rw [Try.params8]; exact of_decide_eq_true (by kernel_rfl)) hb

set_option maxRecDepth 100000 in
theorem lifted (os : Os) (started : os.Started) (H : Type) (enc : TypeId × Value → H) (F : Stop.Interp) :
    ReturnsInHanded {} Try.checked os 8 .any ((Rows.OpenSpec.upto Rows.fnMergeSpec).pre6 enc Try.prog Try.f8 Rows.fnMergeUptoRow.domain false) (((Rows.OpenSpec.upto Rows.fnMergeSpec).at F).post enc Try.prog Try.f8 false true false false) := by
  refine returnsInHanded_of_cond_sized (C := Try.checked) (s := Rows.OpenSpec.upto Rows.fnMergeSpec) (k := Rows.uptoSmall) rfl own started (by kernel_rfl) Try.func8
    (OpenSpec.witness (enc := enc) (C := Try.checked) (s := Rows.OpenSpec.upto Rows.fnMergeSpec) (k := Rows.uptoSmall) rfl false ⟨#[], #[.slice none 0 0, .slice none 0 0], []⟩ 8 (by kernel_rfl) (by kernel_rfl) (by kernel_rfl)
      (x := ([.nil, .nil], [], [])) (by kernel_rfl) rfl (by kernel_rfl)) ?_
  intro W base args ds gs before hval hW _ hk hsz _
  exact contract H enc W base args ds gs before hval hW hsz hk

theorem proved : Rows.FnMergeUptoSaid :=
  OpenClaim.holds_of_cond 8 Try.f8 rfl rfl rfl rfl rfl rfl rfl ⟨rfl, rfl, rfl, rfl, rfl⟩ rfl rfl rfl rfl rfl (by kernel_rfl) Try.func8 (by kernel_rfl)
    (of_decide_eq_true (by kernel_rfl)) (by unfold Func.isWrapper; first | (rw [if_pos (by decide +kernel)]; kernel_rfl) | (rw [if_neg (by decide +kernel)]; exact ⟨rfl, rfl⟩))
    (fun os started H enc _ F => lifted os started H enc F)
end Go.Proofs.Ytjojlnmcifkenaa.fnMerge
