/-
  FnRemoveCalls returns true for every list of items and every index. Condition: the reach of a slice that every statement bears.
-/
import Derived.Test.YtfmfndpeiffehaaRemCalls
import Derived.Test.YtfmfndpeiffehaaReplay
import Derived.Test.YtfmfndpeiffehaaImplRem
import Derived.Test.YtfmfndpeiffehaaOpen
namespace Go.Proofs.Ytfmfndpeiffehaa.fnRemoveCalls
open Go.ChangeShapes Go.WideShapes Go.ChangeAt Go.RowKit Go.Shelf Go.Deep Go.Joins
open Hp (g swp Ev)

/-- A literal list of one item reads as that item. -/
theorem rd_lit (w : World) (x1 x2 : Int) : Rd (w.alloc (.cells #[.int .i64 x1, .int .i64 x2] 35)) (some ⟨w.heap.size, 0, none⟩) (cls [(x1, x2)]) :=
  Rd.of_own (B := 0) (e := 35) (size := 2) (n := 1) (c := 1) ⟨rfl, .inr ⟨w.heap.size, 1, #[.int .i64 x1, .int .i64 x2], rfl, Nat.zero_le _, heap_alloc_new _ _, Nat.le_refl _, by decide, rfl, rfl⟩⟩

theorem walk_out (w : World) (A : Option Addr) (n c : Nat) (i : Int) (h : ¬ (0 ≤ i ∧ i < n)) :
    Calls Try.prog 5 #[.slice A n c, .int .i64 i] w (Gives w (.bool true)) := by
  go_enter Try.func5, Try.ntmps5
  go_wp2_with (go_at_call 16; refine (qIndex_no _ A _ c _ h).mono ?_; rintro e w' ⟨rfl, rfl⟩)
  go_ret
  exact ⟨rfl, Below.refl _ _⟩

set_option maxHeartbeats 1000000 in
set_option maxRecDepth 100000 in
theorem walk_no (w : World) (A : Option Addr) (c : Nat) (l : List It) (i : Nat) (hr : Rd w A (cls l)) (hn : l.length * 16 ≤ 140737488351232) (hi : i < l.length) (hh : ¬ Hp.HO ltK l l.length) :
    Calls Try.prog 5 #[.slice A l.length c, .int .i64 (i : Int)] w (Gives w (.bool true)) := by
  have hb0 := Below.refl w.heap.size w
  have hr0 := hr.below hb0 (Nat.le_refl _)
  have HH := Lib.hid hh
  clear hh hr
  go_enter Try.func5, Try.ntmps5
  go_wp2_with (first
    | (go_at_call 16; refine (qIndex_yes _ A _ c _ (by omega) (by omega)).mono ?_; rintro e w' ⟨rfl, rfl⟩)
    | (go_at_call 14; refine (toItems_any _ A _ c l rfl hr0 (by omega)).mono ?_; rintro e w1 ⟨A1, c1, rfl, ho1, hb1⟩)
    | (go_at_call 19; refine (heapOrdered_any _ A1 _ c1 l false rfl (Rd.of_own ho1) (by omega) ⟨(fun h => by cases h), (fun h => absurd h HH.out)⟩).mono ?_; rintro e w2 ⟨rfl, hb2⟩))
  go_ret
  exact ⟨rfl, bnext (bnext hb0 hb1) hb2⟩

set_option maxHeartbeats 1000000 in
set_option maxRecDepth 100000 in
theorem walk_yes (w : World) (A : Option Addr) (c : Nat) (l : List It) (i : Nat) (hr : Rd w A (cls l)) (hn : l.length * 16 ≤ 140737488351232) (hi : i < l.length) (hh : Hp.HO ltK l l.length) :
    Calls Try.prog 5 #[.slice A l.length c, .int .i64 (i : Int)] w (Gives w (.bool true)) := by
  have hrw : ∀ W, Below w.heap.size w W → Rd W A (cls l) := fun W hW => hr.below hW (Nat.le_refl _)
  have HRW := Lib.hid hrw
  have HH := Lib.hid hh
  clear hh hr hrw
  have hb0 := Below.refl w.heap.size w
  go_enter Try.func5, Try.ntmps5
  go_wp2_with fail
  refine (qIndex_yes _ A _ c _ (by omega) (by omega)).mono ?_
  rintro e w' ⟨rfl, rfl⟩
  go_wp2_with fail
  refine (toItems_any _ A _ c l rfl (HRW.out _ hb0) (by omega)).mono ?_
  rintro e w1 ⟨A1, c1, rfl, ho1, hb1⟩
  have HRD1 := Lib.hid (Rd.of_own ho1)
  have HB1 := Lib.hid (bnext hb0 hb1)
  clear hb1 ho1 hb0
  go_wp2_with fail
  refine (heapOrdered_any _ A1 _ c1 l true rfl HRD1.out (by omega) ⟨(fun _ => HH.out), (fun _ => rfl)⟩).mono ?_
  rintro e w2 ⟨rfl, hb2⟩
  have HB2 := Lib.hid (bnext HB1.out hb2)
  clear hb2 HRD1 HB1
  go_wp2_with fail
  refine (toItems_any _ A _ c l rfl (HRW.out _ HB2.out) (by omega)).mono ?_
  rintro e w3 ⟨A3, c3, rfl, ho3, hb3⟩
  have HB3 := Lib.hid (bnext HB2.out hb3)
  have HRD3 := Lib.hid (Rd.of_own ho3)
  clear ho3 hb3
  go_wp2_with fail
  refine (heapRemoveCalls_any _ A3 _ c3 l i rfl HRD3.out (by omega) hi).mono ?_
  rintro e w4 ⟨A4, c4, rfl, ho4, hb4⟩
  have HB4 := Lib.hid (bnext HB3.out hb4)
  have HRC4 := Lib.hid (Rd.of_own ho4)
  clear ho4 hb4 HRD3 HB3
  obtain ⟨tr, htr⟩ : ∃ tr, tr = remTr l i := ⟨_, rfl⟩
  rw [← htr] at HRC4 ⊢
  have htl : tr.length ≤ 258 := by rw [htr]; exact remTr_length l i hi (by omega)
  obtain ⟨⟨x1, x2⟩, hx⟩ : ∃ x, g l i = x := ⟨_, rfl⟩
  have HREP : Hid (Hp.rep (l, []) tr = some ((Hp.rem ltK l i).dropLast, [(x1, x2)])) := by
    have h := Hp.rep_rem ltK [] l i hi
    rw [hx] at h
    unfold Hid
    rw [htr]
    unfold remTr
    rw [hx]
    exact h
  have HK3 : Hid (Hp.kinds 3 tr = 0) := by
    unfold Hid; rw [htr]; unfold remTr; rw [Hp.kinds_append, Hp.kinds_other 3 (by decide) (by decide) _ (Hp.rem_kinds ltK l i), Hp.kinds_cons]; simp [Hp.kinds_nil]
  have HK4 : Hid (Hp.kinds 4 tr = 1) := by
    unfold Hid; rw [htr]; unfold remTr; rw [Hp.kinds_append, Hp.kinds_other 4 (by decide) (by decide) _ (Hp.rem_kinds ltK l i), Hp.kinds_cons]; simp [Hp.kinds_nil]
  have HX := Lib.hid hx
  clear htr hx
  go_wp2_with fail
  refine (toItems_any _ A _ c l rfl (HRW.out _ HB4.out) (by omega)).mono ?_
  rintro e w5 ⟨A5, c5, rfl, ho5, hb5⟩
  have HB5 := Lib.hid (bnext HB4.out hb5)
  have HRD5 := Lib.hid (Rd.of_own ho5)
  have HRC5 := Lib.hid (HRC4.out.below hb5 (Nat.le_refl _))
  clear ho5 hb5 HB4 HRC4
  go_wp2_with fail
  refine (qReplayed_any _ A5 A4 _ _ c5 c4 l tr ((Hp.rem ltK l i).dropLast, [(x1, x2)]) rfl rfl HRD5.out HRC5.out (by omega) (by omega) HREP.out).mono ?_
  rintro e w6 ⟨A6, c6, B6, d6, rfl, ho6, hp6, hb6⟩
  have HB6 := Lib.hid (bnext HB5.out hb6)
  have HRH6 := Lib.hid (Rd.of_own ho6)
  have HRO6 := Lib.hid (Rd.of_own hp6)
  have HRC6 := Lib.hid (HRC5.out.below hb6 (Nat.le_refl _))
  clear ho6 hp6 hb6 HRC5 HB5 HRD5 HREP
  go_wp2_with fail
  refine (toItems_any _ A _ c l rfl (HRW.out _ HB6.out) (by omega)).mono ?_
  rintro e w7 ⟨A7, c7, rfl, ho7, hb7⟩
  have HB7 := Lib.hid (bnext HB6.out hb7)
  have HRD7 := Lib.hid (Rd.of_own ho7)
  have HRH7 := Lib.hid (HRH6.out.below hb7 (Nat.le_refl _))
  have HRO7 := Lib.hid (HRO6.out.below hb7 (Nat.le_refl _))
  have HRC7 := Lib.hid (HRC6.out.below hb7 (Nat.le_refl _))
  clear ho7 hb7 HRC6 HRH6 HRO6 HB6
  go_wp2_with fail
  refine (heapRemove_any _ A7 _ c7 l i rfl HRD7.out (by omega) hi).mono ?_
  rw [HX.out]
  rintro e w8 ⟨A8, c8, rfl, ho8, hb8⟩
  have HB8 := Lib.hid (bnext HB7.out hb8)
  have HRR8 := Lib.hid (Rd.of_own ho8)
  have HRH8 := Lib.hid (HRH7.out.below hb8 (Nat.le_refl _))
  have HRO8 := Lib.hid (HRO7.out.below hb8 (Nat.le_refl _))
  have HRC8 := Lib.hid (HRC7.out.below hb8 (Nat.le_refl _))
  clear ho8 hb8 HRC7 HRH7 HRO7 HB7 HRD7
  go_wp2_with fail
  obtain ⟨W, hW⟩ : ∃ W, W = w8.alloc (.cells #[.int .i64 x1, .int .i64 x2] 35) := ⟨_, rfl⟩
  rw [← hW]
  have k1 : W.cell? ⟨w8.heap.size, 0, none⟩ = some (.int .i64 x1) := by rw [hW]; simp
  have k2 : W.cell? ⟨w8.heap.size, 1, none⟩ = some (.int .i64 x2) := by rw [hW]; simp
  have hzW : w8.heap.size < W.heap.size := by rw [hW]; simp
  have HBW : Hid (Below w8.heap.size w8 W) := by rw [hW]; exact (Below.refl _ _).alloc (Nat.le_refl _) _
  clear hW
  obtain ⟨bx, hbx⟩ : ∃ bx, bx = w8.heap.size := ⟨_, rfl⟩
  rw [← hbx] at k1 k2 hzW ⊢
  clear hbx
  have HB9 := Lib.hid (bnext HB8.out HBW.out)
  have HRR9 := Lib.hid (HRR8.out.below HBW.out (Nat.le_refl _))
  have HRH9 := Lib.hid (HRH8.out.below HBW.out (Nat.le_refl _))
  have HRO9 := Lib.hid (HRO8.out.below HBW.out (Nat.le_refl _))
  have HRC9 := Lib.hid (HRC8.out.below HBW.out (Nat.le_refl _))
  clear HB8 HRR8 HRH8 HRO8 HRC8 HBW
  refine (qCount_any _ A4 _ c4 tr 3 rfl HRC9.out (by omega)).mono ?_
  rw [HK3.out]
  rintro e wa ⟨rfl, hba⟩
  replace k1 := (hba.cell (p := ⟨bx, 0, none⟩) hzW).trans k1
  replace k2 := (hba.cell (p := ⟨bx, 1, none⟩) hzW).trans k2
  have hza : bx < wa.heap.size := Nat.lt_of_lt_of_le hzW hba.size
  have HRCa := Lib.hid (HRC9.out.below hba (Nat.le_refl _))
  have HBA := Lib.hid hba
  clear hba hzW HRC9
  go_wp2_with fail
  refine (qCount_any _ A4 _ c4 tr 4 rfl HRCa.out (by omega)).mono ?_
  rw [HK4.out]
  rintro e wb ⟨rfl, hbb⟩
  replace k1 := (hbb.cell (p := ⟨bx, 0, none⟩) hza).trans k1
  replace k2 := (hbb.cell (p := ⟨bx, 1, none⟩) hza).trans k2
  have HBB := Lib.hid (bnext (bnext HB9.out HBA.out) hbb)
  have HRRb := Lib.hid ((HRR9.out.below HBA.out (Nat.le_refl _)).below hbb (Nat.le_refl _))
  have HRHb := Lib.hid ((HRH9.out.below HBA.out (Nat.le_refl _)).below hbb (Nat.le_refl _))
  have HROb := Lib.hid ((HRO9.out.below HBA.out (Nat.le_refl _)).below hbb (Nat.le_refl _))
  clear hbb HBA HB9 HRR9 HRH9 HRO9 HRCa hza
  have hbc := (Below.refl wb.heap.size wb).alloc (Nat.le_refl _) (.cells #[.int .i64 x1, .int .i64 x2] 35)
  have HBC := Lib.hid hbc
  clear hbc
  go_wp2_with fail
  refine (sameItems_eq _ B6 _ _ _ d6 _ [(x1, x2)] rfl rfl (HROb.out.below HBC.out (Nat.le_refl _)) (rd_lit wb x1 x2) (by simp)).mono ?_
  rintro e wd ⟨rfl, hbd⟩
  have HBD := Lib.hid (bnext (bnext HBB.out HBC.out) hbd)
  have HRRd := Lib.hid ((HRRb.out.below HBC.out (Nat.le_refl _)).below hbd (Nat.le_refl _))
  have HRHd := Lib.hid ((HRHb.out.below HBC.out (Nat.le_refl _)).below hbd (Nat.le_refl _))
  clear hbd HBC HBB HRRb HRHb HROb k1 k2
  go_wp2_with fail
  refine (sameItems_eq _ A6 A8 _ _ c6 c8 (Hp.rem ltK l i).dropLast (by simp) (by simp) HRHd.out HRRd.out (by simp; omega)).mono ?_
  rintro e we ⟨rfl, hbe⟩
  have HBE := Lib.hid (bnext HBD.out hbe)
  clear hbe
  go_wp2
  go_ret
  exact ⟨rfl, HBE.out⟩

theorem walk (W : World) (A : Option Addr) (c : Nat) (l : List It) (i : Int) (hr : Rd W A (cls l)) (hn : l.length * 16 ≤ 140737488351232) :
    Calls Try.prog 5 #[.slice A l.length c, .int .i64 i] W (Gives W (.bool true)) := by
  by_cases hi : 0 ≤ i ∧ i < l.length
  · obtain ⟨k, rfl⟩ := Int.eq_ofNat_of_zero_le hi.1
    by_cases hh : Hp.HO ltK l l.length
    · exact walk_yes W A c l k hr hn (by omega) hh
    · exact walk_no W A c l k hr hn (by omega) hh
  · exact walk_out W A _ c i hi

theorem contract (H : Type) (enc : TypeId × Value → H) (W : World) (base : Nat) (args : Array Value) (ds gs : List (DataW H)) (before : List MemPlace)
    (hval : ∀ (j : Nat) t v, Try.f5.params[j]? = some t → args[j]? = some v → Value.okWide Try.prog W .any base t v)
    (hW : DataW.Whole enc Try.prog Try.f5.params.toList Rows.fnRemoveCallsSpec.vars false W args.toList ds gs before)
    (hsz : (DataW.weightsEach Try.prog (Try.f5.params.toList ++ Rows.fnRemoveCallsSpec.plain.varTypes Try.prog) (ds ++ gs)).all (· ≤ reachBytes) = true) :
    Calls Try.prog 5 args W fun e W' => ∃ v, e = .returned v ∧ Rows.fnRemoveCallsSpec.post enc Try.prog Try.f5 false true false false W args v W' := by
  have hW' := hW
  obtain ⟨p, q, hA0, hV, rfl, _, _⟩ := hW
  have hA : DataW.TrodAll enc Try.prog W 0 (fun _ => true) true Try.f5.params.toList args.toList ds p := hA0
  rw [Try.params5] at hA hval hsz
  obtain ⟨v0, v1, d0, d1, p0, p1, rfl, rfl, rfl, h0, h1⟩ := trodAll_two hA
  obtain ⟨rfl, rfl⟩ := trodVars_none hV
  obtain ⟨A0, c0, l0, rfl, hr0, hn0⟩ := open_items (hval 0 22 v0 rfl rfl) h0 (fun elems spare he => by
    have := sized_slice hsz (j := 0) (t := 22) (e := 44) rfl (by rw [he]; rfl) Try.underlying22
    rw [bytes_lawItem] at this
    exact this)
  obtain ⟨i1, rfl, rfl, rfl, wi1⟩ := open_int Try.underlying3 (hval 1 3 v1 rfl rfl) h1
  have hcall : Calls Try.prog 5 #[.slice A0 l0.length c0, .int .i64 i1] W (Gives W (.bool true)) := walk W A0 c0 l0 i1 hr0 hn0
  refine hcall.mono fun e W' ⟨he, hb⟩ => ⟨_, he, ?_⟩
  exact law_post hW' rfl rfl rfl rfl rfl (by rw [Try.params5]; exact of_decide_eq_true (by kernel_rfl)) hb

set_option maxRecDepth 100000 in
theorem lifted (os : Os) (started : os.Started) (H : Type) (enc : TypeId × Value → H) :
    ReturnsInHanded {} Try.checked os 5 .any (Rows.fnRemoveCallsSpec.pre6 enc Try.prog Try.f5 Rows.fnRemoveCallsRow.domain false) (Rows.fnRemoveCallsSpec.post enc Try.prog Try.f5 false true false false) := by
  refine returnsInHanded_of_change_sized (C := Try.checked) own started (by kernel_rfl) Try.func5
    (ChangeSpec.witness6 (enc := enc) (C := Try.checked) false ⟨#[], #[.slice none 0 0, .int .i64 0], []⟩ 8 (by kernel_rfl) (by kernel_rfl) (by kernel_rfl) (by kernel_rfl)) ?_
  intro W base args ds gs before hval hW _ hsz _
  exact contract H enc W base args ds gs before hval hW hsz

theorem proved : Rows.FnRemoveCallsSaid :=
  OpenClaim.holds_of_wide 5 Try.f5 rfl rfl rfl rfl rfl rfl rfl ⟨rfl, rfl, rfl, rfl, rfl⟩ rfl rfl rfl rfl rfl (by kernel_rfl) Try.func5 (by kernel_rfl)
    (of_decide_eq_true (by kernel_rfl)) (by unfold Func.isWrapper; first | (rw [if_pos (by decide +kernel)]; kernel_rfl) | (rw [if_neg (by decide +kernel)]; exact ⟨rfl, rfl⟩))
    (fun os started H enc _ => lifted os started H enc)
end Go.Proofs.Ytfmfndpeiffehaa.fnRemoveCalls
