/-
  FnReplaceLeast returns true for every list of numbers and every number. Condition: the reach of a slice that every statement bears.
-/
import Derived.Test.YtjojlnmcifkenaaScriptL
import Derived.Test.YtjojlnmcifkenaaOpen
namespace Go.Proofs.Ytjojlnmcifkenaa.fnReplaceLeast
open Go.ChangeShapes Go.WideShapes Go.ChangeAt Go.RowKit Go.Shelf Go.Deep Go.Joins
open Hp (g swp Ev St plc)

theorem least_one (x : List Int) (h : 0 < x.length) (v : Int) : ∃ a m, Hp.srt x = a :: m ∧ m.length + 1 = x.length ∧
    Hp.outA (Hp.srt x) [(4, 0, v, 0)] = [a] ∧ Hp.aftA (Hp.srt x) [(4, 0, v, 0)] = Hp.ins v m ∧ Hp.outA (Hp.srt x) [(2, 0, 0, 0), (1, 0, v, 0)] = [a] ∧ Hp.aftA (Hp.srt x) [(2, 0, 0, 0), (1, 0, v, 0)] = Hp.ins v m := by
  cases hs : Hp.srt x with
  | nil => have := Hp.length_srt x; rw [hs] at this; simp at this; omega
  | cons a m =>
    have hl := Hp.length_srt x
    rw [hs] at hl
    exact ⟨a, m, rfl, by simpa using hl, by simp [Hp.outA, Hp.stpA], by simp [Hp.aftA, Hp.stpA], by simp [Hp.outA, Hp.stpA], by simp [Hp.aftA, Hp.stpA]⟩

set_option maxHeartbeats 2000000 in
set_option maxRecDepth 100000 in
theorem walk (w : World) (A : Option Addr) (c : Nat) (x : List Int) (v : Int) (hr : Rd w A (clsN x)) (hn : x.length * 8 ≤ 140737488351232) :
    Calls Try.prog 4 #[.slice A x.length c, .int .i64 v] w (Gives w (.bool true)) := by
  by_cases h0 : x.length = 0
  · have hq : ((x.length : Int) == 0) = true := by rw [h0]; rfl
    clear hr h0
    go_enter Try.func4, Try.ntmps4
    go_wp2
    go_ret
    exact ⟨rfl, Below.refl _ _⟩
  have hq : ((x.length : Int) == 0) = false := by simp; intro e; rw [e] at h0; exact h0 rfl
  obtain ⟨a0, m, hsrt, hml, e1, e2, e3, e4⟩ := least_one x (by omega) v
  have hb1 := (Below.refl w.heap.size w).alloc (Nat.le_refl _) (.cells #[.int .i64 4, .int .i64 0, .int .i64 v, .int .i64 0] 36)
  have hst1 : Rd (w.alloc (.cells #[.int .i64 4, .int .i64 0, .int .i64 v, .int .i64 0] 36)) (some ⟨w.heap.size, 0, none⟩) (clsT [(4, 0, v, 0)]) :=
    Rd.of_own (own_built (B := 0) (size := 4) (n := 1) (cs := #[.int .i64 4, .int .i64 0, .int .i64 v, .int .i64 0]) rfl (by decide) (by omega))
  have HC1 := Lib.hid (script_law _ A (some ⟨w.heap.size, 0, none⟩) x.length c 1 1 x [(4, 0, v, 0)] rfl rfl (hr.below hb1 (Nat.le_refl _)) hst1 (by simp; omega))
  have HB1 := Lib.hid hb1
  have HR := Lib.hid hr
  have HE := Lib.hid (And.intro e1 (And.intro e2 (And.intro e3 e4)))
  have HML := Lib.hid hml
  clear hr hst1 hb1 hsrt hml e1 e2 e3 e4 h0
  go_enter Try.func4, Try.ntmps4
  go_wp2_with fail
  refine HC1.out.mono ?_
  rintro e w1 ⟨a, b, A1, c1, A2, c2, ⟨ea, eb⟩, rfl, h1, h2, h3, h4⟩
  obtain ⟨e1, e2, e3, e4⟩ := HE.out
  rw [e1] at ea
  rw [e2] at eb
  have ha : ((a.length : Int) == 1) = true := by rw [ea]; rfl
  have hb : ((b.length : Int) == (x.length : Int)) = true := by rw [eb, Hp.length_ins, HML.out]; simp
  have hal : a.length ≤ 1 := by rw [ea]; simp
  have hbl : b.length ≤ x.length := by rw [eb, Hp.length_ins, HML.out]; omega
  have HB2 := Lib.hid (bnext HB1.out h4)
  have HRA := Lib.hid (Rd.of_own h1)
  have HRB := Lib.hid (Rd.of_own h2)
  have HEA := Lib.hid ea
  have HEB := Lib.hid eb
  have hb5 := (Below.refl w1.heap.size w1).alloc (Nat.le_refl _) (.cells #[.int .i64 2, .int .i64 0, .int .i64 0, .int .i64 0, .int .i64 1, .int .i64 0, .int .i64 v, .int .i64 0] 36)
  have hst2 : Rd (w1.alloc (.cells #[.int .i64 2, .int .i64 0, .int .i64 0, .int .i64 0, .int .i64 1, .int .i64 0, .int .i64 v, .int .i64 0] 36)) (some ⟨w1.heap.size, 0, none⟩) (clsT [(2, 0, 0, 0), (1, 0, v, 0)]) :=
    Rd.of_own (own_built (B := 0) (size := 4) (n := 2) (cs := #[.int .i64 2, .int .i64 0, .int .i64 0, .int .i64 0, .int .i64 1, .int .i64 0, .int .i64 v, .int .i64 0]) rfl (by decide) (by omega))
  have HC2 := Lib.hid (script_law _ A (some ⟨w1.heap.size, 0, none⟩) x.length c 2 2 x [(2, 0, 0, 0), (1, 0, v, 0)] rfl rfl (HR.out.below (bnext HB2.out hb5) (Nat.le_refl _)) hst2 (by simp; omega))
  have HB5 := Lib.hid hb5
  clear e1 e2 e3 e4 ea eb h1 h2 h3 h4 hb5 hst2 HC1
  go_wp2_with fail
  refine HC2.out.mono ?_
  rintro e w3 ⟨a', b', A3, c3, A4, c4, ⟨ea, eb⟩, rfl, h1, h2, h3, h4⟩
  obtain ⟨e1, e2, e3, e4⟩ := HE.out
  rw [e3, ← HEA.out] at ea
  rw [e4, ← HEB.out] at eb
  subst ea
  subst eb
  have HB35 := Lib.hid (bnext HB5.out h4)
  have HRA3 := Lib.hid (Rd.of_own h1)
  have HRB3 := Lib.hid (Rd.of_own h2)
  clear e1 e2 e3 e4 h1 h2 h3 h4 HC2
  go_wp2_with fail
  refine (sameInts_eq w3 A1 A3 _ _ c1 c3 a' rfl rfl (HRA.out.below HB35.out (Nat.le_refl _)) HRA3.out (by omega)).mono ?_
  rintro e w6 ⟨rfl, hb6⟩
  have HB6 := Lib.hid (bnext HB35.out hb6)
  have HRB6 := Lib.hid (HRB3.out.below hb6 (Nat.le_refl _))
  clear hb6
  go_wp2_with fail
  refine (sameInts_eq w6 A2 A4 _ _ c2 c4 b' rfl rfl (HRB.out.below HB6.out (Nat.le_refl _)) HRB6.out (by omega)).mono ?_
  rintro e w7 ⟨rfl, hb7⟩
  have HB7 := Lib.hid (bnext (bnext HB2.out HB6.out) hb7)
  clear hb7
  go_wp2
  go_ret
  exact ⟨rfl, HB7.out⟩

theorem contract (H : Type) (enc : TypeId × Value → H) (W : World) (base : Nat) (args : Array Value) (ds gs : List (DataW H)) (before : List MemPlace)
    (hval : ∀ (j : Nat) t v, Try.f4.params[j]? = some t → args[j]? = some v → Value.okWide Try.prog W .any base t v)
    (hW : DataW.Whole enc Try.prog Try.f4.params.toList Rows.fnReplaceLeastSpec.vars false W args.toList ds gs before)
    (hsz : (DataW.weightsEach Try.prog (Try.f4.params.toList ++ Rows.fnReplaceLeastSpec.plain.varTypes Try.prog) (ds ++ gs)).all (· ≤ reachBytes) = true) :
    Calls Try.prog 4 args W fun e W' => ∃ v, e = .returned v ∧ Rows.fnReplaceLeastSpec.post enc Try.prog Try.f4 false true false false W args v W' := by
  have hW' := hW
  obtain ⟨p, q, hA0, hV, rfl, _, _⟩ := hW
  have hA : DataW.TrodAll enc Try.prog W 0 (fun _ => true) true Try.f4.params.toList args.toList ds p := hA0
  rw [Try.params4] at hA hval hsz
  obtain ⟨v0, v1, d0, d1, p0, p1, rfl, rfl, rfl, h0, h1⟩ := trodAll_two hA
  obtain ⟨rfl, rfl⟩ := trodVars_none hV
  obtain ⟨A0, c0, l0, rfl, hr0, hn0⟩ := open_intsl (hval 0 22 v0 rfl rfl) h0 (fun elems spare he => by
    have := sized_slice hsz (j := 0) (t := 22) (e := 3) rfl (by rw [he]; rfl) Try.underlying22
    rw [bytes_int] at this
    exact this)
  obtain ⟨i1, rfl, rfl, rfl, wi1⟩ := open_int Try.underlying3 (hval 1 3 v1 rfl rfl) h1
  have hcall : Calls Try.prog 4 #[.slice A0 l0.length c0, .int .i64 i1] W (Gives W (.bool true)) := walk W A0 c0 l0 i1 hr0 hn0
  refine hcall.mono fun e W' ⟨he, hb⟩ => ⟨_, he, ?_⟩
  exact law_post hW' rfl rfl rfl rfl rfl (by rw [Try.params4]; exact of_decide_eq_true (by kernel_rfl)) hb

set_option maxRecDepth 100000 in
theorem lifted (os : Os) (started : os.Started) (H : Type) (enc : TypeId × Value → H) :
    ReturnsInHanded {} Try.checked os 4 .any (Rows.fnReplaceLeastSpec.pre6 enc Try.prog Try.f4 Rows.fnReplaceLeastRow.domain false) (Rows.fnReplaceLeastSpec.post enc Try.prog Try.f4 false true false false) := by
  refine returnsInHanded_of_change_sized (C := Try.checked) own started (by kernel_rfl) Try.func4
    (ChangeSpec.witness6 (enc := enc) (C := Try.checked) false ⟨#[], #[.slice none 0 0, .int .i64 0], []⟩ 8 (by kernel_rfl) (by kernel_rfl) (by kernel_rfl) (by kernel_rfl)) ?_
  intro W base args ds gs before hval hW _ hsz _
  exact contract H enc W base args ds gs before hval hW hsz

theorem proved : Rows.FnReplaceLeastSaid :=
  OpenClaim.holds_of_wide 4 Try.f4 rfl rfl rfl rfl rfl rfl rfl ⟨rfl, rfl, rfl, rfl, rfl⟩ rfl rfl rfl rfl rfl (by kernel_rfl) Try.func4 (by kernel_rfl)
    (of_decide_eq_true (by kernel_rfl)) (by unfold Func.isWrapper; first | (rw [if_pos (by decide +kernel)]; kernel_rfl) | (rw [if_neg (by decide +kernel)]; exact ⟨rfl, rfl⟩))
    (fun os started H enc _ => lifted os started H enc)
end Go.Proofs.Ytjojlnmcifkenaa.fnReplaceLeast
