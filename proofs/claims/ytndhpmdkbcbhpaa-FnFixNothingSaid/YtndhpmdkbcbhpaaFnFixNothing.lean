/-
  FnFixNothing returns true for every list of items and every index. Condition: the reach of a slice that every statement bears.
-/
import Derived.Test.YtndhpmdkbcbhpaaImplFix
import Derived.Test.YtndhpmdkbcbhpaaWith
import Derived.Test.YtndhpmdkbcbhpaaOpen
import Derived.Test.YtndhpmdkbcbhpaaPlainB
namespace Go.Proofs.Ytndhpmdkbcbhpaa.fnFixNothing
open Go.ChangeShapes Go.WideShapes Go.ChangeAt Go.RowKit Go.Shelf Go.Deep Go.Joins
open Hp (g swp Ev)

theorem walk_out (w : World) (A : Option Addr) (n c : Nat) (i : Int) (h : ¬ (0 ≤ i ∧ i < n)) :
    Calls Try.prog 6 #[.slice A n c, .int .i64 i] w (Gives w (.bool true)) := by
  go_enter Try.func6, Try.ntmps6
  go_wp2_with (go_at_call 18; refine (qIndex_no _ A _ c _ h).mono ?_; rintro e w' ⟨rfl, rfl⟩)
  go_ret
  exact ⟨rfl, Below.refl _ _⟩

set_option maxHeartbeats 1000000 in
set_option maxRecDepth 100000 in
theorem walk_no (w : World) (A : Option Addr) (c : Nat) (l : List It) (i : Nat) (hr : Rd w A (cls l)) (hn : l.length * 16 ≤ 140737488351232) (hi : i < l.length) (hh : ¬ Hp.HO ltK l l.length) :
    Calls Try.prog 6 #[.slice A l.length c, .int .i64 (i : Int)] w (Gives w (.bool true)) := by
  have HH := Lib.hid hh
  clear hh
  go_enter Try.func6, Try.ntmps6
  go_wp2_with (first
    | (go_at_call 18; refine (qIndex_yes _ A _ c _ (by omega) (by omega)).mono ?_; rintro e w' ⟨rfl, rfl⟩)
    | (go_at_call 15; refine (toItems_any _ A _ c l rfl hr (by omega)).mono ?_; rintro e w1 ⟨A1, c1, rfl, ho1, hb1⟩)
    | (go_at_call 19; refine (heapOrdered_any _ A1 _ c1 l false rfl (Rd.of_own ho1) (by omega) ⟨(fun h => by cases h), (fun h => absurd h HH.out)⟩).mono ?_; rintro e w2 ⟨rfl, hb2⟩))
  go_ret
  exact ⟨rfl, bnext hb1 hb2⟩

set_option maxHeartbeats 1000000 in
set_option maxRecDepth 100000 in
theorem walk_yes (w : World) (A : Option Addr) (c : Nat) (l : List It) (i : Nat) (hr : Rd w A (cls l)) (hn : l.length * 16 ≤ 140737488351232) (hi : i < l.length) (hh : Hp.HO ltK l l.length) :
    Calls Try.prog 6 #[.slice A l.length c, .int .i64 (i : Int)] w (Gives w (.bool true)) := by
  have hrw : ∀ W, Below w.heap.size w W → Rd W A (cls l) := fun W hW => hr.below hW (Nat.le_refl _)
  have HRW := Lib.hid hrw
  have HH := Lib.hid hh
  have HS := Lib.hid (Hp.set_self hi)
  clear hh hr hrw
  go_enter Try.func6, Try.ntmps6
  go_wp2_with fail
  refine (qIndex_yes _ A _ c _ (by omega) (by omega)).mono ?_
  rintro e w' ⟨rfl, rfl⟩
  go_wp2_with fail
  refine (toItems_any _ A _ c l rfl (HRW.out _ (Below.refl _ _)) (by omega)).mono ?_
  rintro e w1 ⟨A1, c1, rfl, ho1, hb1⟩
  have HRD1 := Lib.hid (Rd.of_own ho1)
  have HB1 := Lib.hid hb1
  clear hb1 ho1
  go_wp2_with fail
  refine (heapOrdered_any _ A1 _ c1 l true rfl HRD1.out (by omega) ⟨(fun _ => HH.out), (fun _ => rfl)⟩).mono ?_
  rintro e w2 ⟨rfl, hb2⟩
  have HB2 := Lib.hid (bnext HB1.out hb2)
  clear hb2 HRD1 HB1
  go_wp2_with fail
  refine (toItems_any _ A _ c l rfl (HRW.out _ HB2.out) (by omega)).mono ?_
  rintro e w3 ⟨A3, c3, rfl, ho3, hb3⟩
  have HRD3 := Lib.hid (Rd.of_own ho3)
  have HB3 := Lib.hid (bnext HB2.out hb3)
  clear hb3 ho3 HB2
  go_wp2_with fail
  refine (toItems_any _ A _ c l rfl (HRW.out _ HB3.out) (by omega)).mono ?_
  rintro e w4 ⟨A4, c4, rfl, ho4, hb4⟩
  have HRD4 := Lib.hid (HRD3.out.below hb4 (Nat.le_refl _))
  obtain ⟨b4, o4, hA4, _, ci1, ci2⟩ := (Rd.of_own ho4).at_ i hi
  subst hA4
  have HB4 := Lib.hid (bnext HB3.out hb4)
  clear hb4 ho4 HB3 HRD3
  go_wp2_with fail
  refine (heapFix_any _ A3 _ c3 l i (g l i) rfl HRD4.out (by omega) hi).mono ?_
  rw [HS.out]
  rintro e w5 ⟨A5, c5, rfl, ho5, hb5⟩
  have HRD5 := Lib.hid (Rd.of_own ho5)
  have HB5 := Lib.hid (bnext HB4.out hb5)
  clear hb5 ho5 HB4 HRD4 ci1 ci2
  go_wp2_with fail
  refine (heapOrdered_any _ A5 _ c5 (Hp.fix ltK l i) true (by simp) HRD5.out (by simp; omega) ⟨(fun _ => by
    have h := Hp.fix_HO wo_ltK l i hi HH.out (g l i)
    rw [HS.out] at h
    rw [Hp.length_fix]
    exact h), (fun _ => rfl)⟩).mono ?_
  rintro e w6 ⟨rfl, hb6⟩
  have HRD6 := Lib.hid (HRD5.out.below hb6 (Nat.le_refl _))
  have HB6 := Lib.hid (bnext HB5.out hb6)
  clear hb6 HB5 HRD5
  go_wp2_with fail
  refine (toItems_any _ A _ c l rfl (HRW.out _ HB6.out) (by omega)).mono ?_
  rintro e w7 ⟨A7, c7, rfl, ho7, hb7⟩
  have HRD7 := Lib.hid (HRD6.out.below hb7 (Nat.le_refl _))
  have HRX7 := Lib.hid (Rd.of_own ho7)
  have HB7 := Lib.hid (bnext HB6.out hb7)
  clear hb7 ho7 HB6 HRD6
  go_wp2_with fail
  refine (sameElements_perm _ A5 A7 _ _ c5 c7 (Hp.fix ltK l i) l (by simp) rfl (Hp.perm_fix ltK l i hi) HRD7.out HRX7.out (by simp; omega)).mono ?_
  rintro e w8 ⟨rfl, hb8⟩
  have HB8 := Lib.hid (bnext HB7.out hb8)
  clear hb8
  go_wp2
  go_ret
  exact ⟨rfl, HB8.out⟩

theorem walk (W : World) (A : Option Addr) (c : Nat) (l : List It) (i : Int) (hr : Rd W A (cls l)) (hn : l.length * 16 ≤ 140737488351232) :
    Calls Try.prog 6 #[.slice A l.length c, .int .i64 i] W (Gives W (.bool true)) := by
  by_cases hi : 0 ≤ i ∧ i < l.length
  · obtain ⟨k, rfl⟩ := Int.eq_ofNat_of_zero_le hi.1
    by_cases hh : Hp.HO ltK l l.length
    · exact walk_yes W A c l k hr hn (by omega) hh
    · exact walk_no W A c l k hr hn (by omega) hh
  · exact walk_out W A _ c i hi

theorem contract (H : Type) (enc : TypeId × Value → H) (W : World) (base : Nat) (args : Array Value) (ds gs : List (DataW H)) (before : List MemPlace)
    (hval : ∀ (j : Nat) t v, Try.f6.params[j]? = some t → args[j]? = some v → Value.okWide Try.prog W .any base t v)
    (hW : DataW.Whole enc Try.prog Try.f6.params.toList Rows.fnFixNothingSpec.vars false W args.toList ds gs before)
    (hsz : (DataW.weightsEach Try.prog (Try.f6.params.toList ++ Rows.fnFixNothingSpec.plain.varTypes Try.prog) (ds ++ gs)).all (· ≤ reachBytes) = true) :
    Calls Try.prog 6 args W fun e W' => ∃ v, e = .returned v ∧ Rows.fnFixNothingSpec.post enc Try.prog Try.f6 false true false false W args v W' := by
  have hW' := hW
  obtain ⟨p, q, hA0, hV, rfl, _, _⟩ := hW
  have hA : DataW.TrodAll enc Try.prog W 0 (fun _ => true) true Try.f6.params.toList args.toList ds p := hA0
  rw [Try.params6] at hA hval hsz
  obtain ⟨v0, v1, d0, d1, p0, p1, rfl, rfl, rfl, h0, h1⟩ := trodAll_two hA
  obtain ⟨rfl, rfl⟩ := trodVars_none hV
  obtain ⟨A0, c0, l0, rfl, hr0, hn0⟩ := open_items (hval 0 22 v0 rfl rfl) h0 (fun elems spare he => by
    have := sized_slice hsz (j := 0) (t := 22) (e := 24) rfl (by rw [he]; rfl) Try.underlying22
    rw [bytes_lawItem] at this
    exact this)
  obtain ⟨i1, rfl, rfl, rfl, wi1⟩ := open_int Try.underlying3 (hval 1 3 v1 rfl rfl) h1
  have hcall : Calls Try.prog 6 #[.slice A0 l0.length c0, .int .i64 i1] W (Gives W (.bool true)) := walk W A0 c0 l0 i1 hr0 hn0
  refine hcall.mono fun e W' ⟨he, hb⟩ => ⟨_, he, ?_⟩
  exact law_post hW' rfl rfl rfl rfl rfl (by rw [Try.params6]; exact of_decide_eq_true (by kernel_rfl)) hb

set_option maxRecDepth 100000 in
theorem lifted (os : Os) (started : os.Started) (H : Type) (enc : TypeId × Value → H) :
    ReturnsInHanded {} Try.checked os 6 .any (Rows.fnFixNothingSpec.pre6 enc Try.prog Try.f6 Rows.fnFixNothingRow.domain false) (Rows.fnFixNothingSpec.post enc Try.prog Try.f6 false true false false) := by
  refine returnsInHanded_of_change_sized (C := Try.checked) own started (by kernel_rfl) Try.func6
    (ChangeSpec.witness6 (enc := enc) (C := Try.checked) false ⟨#[], #[.slice none 0 0, .int .i64 0], []⟩ 8 (by kernel_rfl) (by kernel_rfl) (by kernel_rfl) (by kernel_rfl)) ?_
  intro W base args ds gs before hval hW _ hsz _
  exact contract H enc W base args ds gs before hval hW hsz

theorem proved : Rows.FnFixNothingSaid :=
  OpenClaim.holds_of_wide 6 Try.f6 rfl rfl rfl rfl rfl rfl rfl ⟨rfl, rfl, rfl, rfl, rfl⟩ rfl rfl rfl rfl rfl (by kernel_rfl) Try.func6 (by kernel_rfl)
    (of_decide_eq_true (by kernel_rfl)) (by unfold Func.isWrapper; first | (rw [if_pos (by decide +kernel)]; kernel_rfl) | (rw [if_neg (by decide +kernel)]; exact ⟨rfl, rfl⟩))
    (fun os started H enc _ => lifted os started H enc)
end Go.Proofs.Ytndhpmdkbcbhpaa.fnFixNothing
