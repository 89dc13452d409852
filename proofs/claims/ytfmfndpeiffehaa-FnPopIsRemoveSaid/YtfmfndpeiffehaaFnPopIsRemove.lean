/-
  FnPopIsRemove returns true for every list of items. Condition: the reach of a slice that every statement bears.
-/
import Derived.Test.YtfmfndpeiffehaaImplRem
import Derived.Test.YtfmfndpeiffehaaImplPop
import Derived.Test.YtfmfndpeiffehaaPlainP
import Derived.Test.YtfmfndpeiffehaaOpen
namespace Go.Proofs.Ytfmfndpeiffehaa.fnPopIsRemove
open Go.ChangeShapes Go.WideShapes Go.ChangeAt Go.RowKit Go.Shelf Go.Deep Go.Joins
open Hp (g swp Ev)

theorem walk_out (w : World) (A : Option Addr) (c : Nat) (l : List It) (hr : Rd w A (cls l)) (hn : l.length * 16 ≤ 140737488351232) (h0 : l.length = 0) :
    Calls Try.prog 7 #[.slice A l.length c] w (Gives w (.bool true)) := by
  have hq : ((l.length : Int) == 0) = true := by rw [h0]; rfl
  clear hr
  go_enter Try.func7, Try.ntmps7
  go_wp2
  go_ret
  exact ⟨rfl, Below.refl _ _⟩

set_option maxHeartbeats 1000000 in
set_option maxRecDepth 100000 in
theorem walk_no (w : World) (A : Option Addr) (c : Nat) (l : List It) (hr : Rd w A (cls l)) (hn : l.length * 16 ≤ 140737488351232) (h0 : 0 < l.length) (hh : ¬ Hp.HO ltK l l.length) :
    Calls Try.prog 7 #[.slice A l.length c] w (Gives w (.bool true)) := by
  have hq : ((l.length : Int) == 0) = false := by rw [beq_eq_false_iff_ne]; omega
  have HH := Lib.hid hh
  clear hh
  go_enter Try.func7, Try.ntmps7
  go_wp2_with fail
  refine (toItems_any _ A _ c l rfl hr (by omega)).mono ?_
  rintro e w1 ⟨A1, c1, rfl, ho1, hb1⟩
  have HRD1 := Lib.hid (Rd.of_own ho1)
  have HB1 := Lib.hid hb1
  clear ho1 hb1 hr
  go_wp2_with fail
  refine (heapOrdered_any _ A1 _ c1 l false rfl HRD1.out (by omega) ⟨(fun h => by cases h), (fun h => absurd h HH.out)⟩).mono ?_
  rintro e w2 ⟨rfl, hb2⟩
  have HB2 := Lib.hid (bnext HB1.out hb2)
  clear hb2
  go_wp2
  go_ret
  exact ⟨rfl, HB2.out⟩

set_option maxHeartbeats 1000000 in
set_option maxRecDepth 100000 in
theorem walk_yes (w : World) (A : Option Addr) (c : Nat) (l : List It) (hr : Rd w A (cls l)) (hn : l.length * 16 ≤ 140737488351232) (h0 : 0 < l.length) (hh : Hp.HO ltK l l.length) :
    Calls Try.prog 7 #[.slice A l.length c] w (Gives w (.bool true)) := by
  have hrw : ∀ W, Below w.heap.size w W → Rd W A (cls l) := fun W hW => hr.below hW (Nat.le_refl _)
  have HRW := Lib.hid hrw
  have HB0 := Lib.hid (Below.refl w.heap.size w)
  clear hr hrw
  have hq : ((l.length : Int) == 0) = false := by rw [beq_eq_false_iff_ne]; omega
  have HH := Lib.hid hh
  clear hh
  obtain ⟨⟨x1, x2⟩, hx⟩ : ∃ x, g l 0 = x := ⟨_, rfl⟩
  have HX := Lib.hid hx
  clear hx
  go_enter Try.func7, Try.ntmps7
  go_wp2_with fail
  refine (toItems_any _ A _ c l rfl (HRW.out _ HB0.out) (by omega)).mono ?_
  rintro e w1 ⟨A1, c1, rfl, ho1, hb1⟩
  have HB1 := Lib.hid (bnext HB0.out hb1)
  have HRD1 := Lib.hid (Rd.of_own ho1)
  clear ho1 hb1
  go_wp2_with fail
  refine (heapOrdered_any _ A1 _ c1 l true rfl HRD1.out (by omega) ⟨(fun _ => HH.out), (fun _ => rfl)⟩).mono ?_
  rintro e w2 ⟨rfl, hb2⟩
  have HB2 := Lib.hid (bnext HB1.out hb2)
  clear hb2 HB1 HRD1
  go_wp2_with fail
  refine (toItems_any _ A _ c l rfl (HRW.out _ HB2.out) (by omega)).mono ?_
  rintro e w3 ⟨A3, c3, rfl, ho3, hb3⟩
  have HB3 := Lib.hid (bnext HB2.out hb3)
  have HRD3 := Lib.hid (Rd.of_own ho3)
  clear ho3 hb3 HB2
  go_wp2_with fail
  refine (heapPop_any _ A3 _ c3 l rfl HRD3.out (by omega) h0).mono ?_
  rw [HX.out]
  rintro e w4 ⟨A4, c4, rfl, ho4, hb4⟩
  have HB4 := Lib.hid (bnext HB3.out hb4)
  have HRA4 := Lib.hid (Rd.of_own ho4)
  clear ho4 hb4 HB3 HRD3
  go_wp2_with fail
  obtain ⟨W, hW⟩ : ∃ W, W = w4.alloc (.cells #[.int .i64 x1, .int .i64 x2] 35) := ⟨_, rfl⟩
  rw [← hW]
  have k1 : W.cell? ⟨w4.heap.size, 0, none⟩ = some (.int .i64 x1) := by rw [hW]; simp
  have k2 : W.cell? ⟨w4.heap.size, 1, none⟩ = some (.int .i64 x2) := by rw [hW]; simp
  have hzW : w4.heap.size < W.heap.size := by rw [hW]; simp
  have HBW : Hid (Below w4.heap.size w4 W) := by rw [hW]; exact (Below.refl _ _).alloc (Nat.le_refl _) _
  clear hW
  obtain ⟨bx, hbx⟩ : ∃ bx, bx = w4.heap.size := ⟨_, rfl⟩
  rw [← hbx] at k1 k2 hzW ⊢
  clear hbx
  have HB5 := Lib.hid (bnext HB4.out HBW.out)
  have HRA5 := Lib.hid (HRA4.out.below HBW.out (Nat.le_refl _))
  clear HB4 HRA4 HBW
  refine (toItems_any _ A _ c l rfl (HRW.out _ HB5.out) (by omega)).mono ?_
  rintro e w6 ⟨A6, c6, rfl, ho6, hb6⟩
  have HB6 := Lib.hid (bnext HB5.out hb6)
  have HRD6 := Lib.hid (Rd.of_own ho6)
  have HRA6 := Lib.hid (HRA5.out.below hb6 (Nat.le_refl _))
  replace k1 := (hb6.cell (p := ⟨bx, 0, none⟩) hzW).trans k1
  replace k2 := (hb6.cell (p := ⟨bx, 1, none⟩) hzW).trans k2
  have hz6 : bx < w6.heap.size := Nat.lt_of_lt_of_le hzW hb6.size
  clear ho6 hb6 HB5 HRA5 hzW
  go_wp2_with fail
  refine (show Calls Try.prog 21 #[.slice A6 l.length c6, .int .i64 0] w6 _ from heapRemove_any w6 A6 _ c6 l 0 rfl HRD6.out (by omega) h0).mono ?_
  rw [HX.out, ← Hp.popD_rem ltK l h0]
  rintro e w7 ⟨A7, c7, rfl, ho7, hb7⟩
  have HB7 := Lib.hid (bnext HB6.out hb7)
  have HRB7 := Lib.hid (Rd.of_own ho7)
  have HRA7 := Lib.hid (HRA6.out.below hb7 (Nat.le_refl _))
  replace k1 := (hb7.cell (p := ⟨bx, 0, none⟩) hz6).trans k1
  replace k2 := (hb7.cell (p := ⟨bx, 1, none⟩) hz6).trans k2
  have hz7 : bx < w7.heap.size := Nat.lt_of_lt_of_le hz6 hb7.size
  clear ho7 hb7 HB6 HRA6 HRD6 hz6
  go_wp2_with fail
  obtain ⟨U, hU⟩ : ∃ U, U = w7.alloc (.cells #[.int .i64 x1, .int .i64 x2] 35) := ⟨_, rfl⟩
  rw [← hU]
  have j1 : U.cell? ⟨w7.heap.size, 0, none⟩ = some (.int .i64 x1) := by rw [hU]; simp
  have j2 : U.cell? ⟨w7.heap.size, 1, none⟩ = some (.int .i64 x2) := by rw [hU]; simp
  have hbU : Below w7.heap.size w7 U := by rw [hU]; exact (Below.refl _ _).alloc (Nat.le_refl _) _
  have hyU : w7.heap.size < U.heap.size := by rw [hU]; simp
  replace k1 := (hbU.cell (p := ⟨bx, 0, none⟩) hz7).trans k1
  replace k2 := (hbU.cell (p := ⟨bx, 1, none⟩) hz7).trans k2
  have hzU : bx < U.heap.size := Nat.lt_trans hz7 hyU
  have HB8 := Lib.hid (bnext HB7.out hbU)
  have HRA8 := Lib.hid (HRA7.out.below hbU (Nat.le_refl _))
  have HRB8 := Lib.hid (HRB7.out.below hbU (Nat.le_refl _))
  clear hU hbU HB7 HRA7 HRB7
  obtain ⟨by', hby⟩ : ∃ by', by' = w7.heap.size := ⟨_, rfl⟩
  rw [← hby] at j1 j2 hyU hz7 ⊢
  clear hby
  have hqq : (((l.length - 1 : Nat) : Int) == (l.length : Int) - 1) = true := by simp; omega
  have hwrap : IntKind.i64.wrap ((l.length : Int) - 1) = (l.length : Int) - 1 := by simp [IntKind.wrap, IntKind.bits, IntKind.signed]; omega
  obtain ⟨q, hqc⟩ : ∃ q, q = l.count (x1, x2) := ⟨_, rfl⟩
  have hq0 : 0 < q := by rw [hqc, ← HX.out]; exact List.count_pos_iff.2 (Hp.mem_g h0)
  have hql : q ≤ l.length := by rw [hqc]; exact List.count_le_length
  have hdq : decide (0 < q) = true := decide_eq_true hq0
  have HQC := Lib.hid hqc
  clear hqc
  go_region_held3 (fun w' => w'.cell? ⟨bx, 0, none⟩ = some (.int .i64 x1) ∧ w'.cell? ⟨bx, 1, none⟩ = some (.int .i64 x2) ∧ w'.cell? ⟨by', 0, none⟩ = some (.int .i64 x1) ∧ w'.cell? ⟨by', 1, none⟩ = some (.int .i64 x2))
    (first
      | exact ⟨kc1, kc2, kc3, kc4⟩
      | exact ⟨kb1, kb2, kb3, kb4⟩
      | exact ⟨ka1, ka2, ka3, ka4⟩
      | exact ⟨k1, k2, j1, j2⟩
      | go_keep)
    (first
      | (go_at_call 24
         ((with_reducible refine (sameElements_perm _ A4 A7 _ _ c4 c7 (Hp.popD ltK l).dropLast (Hp.popD ltK l).dropLast ?_ ?_ ?_ ?_ ?_ ?_).mono ?_)
          · simp
          · simp
          · exact List.Perm.refl _
          · exact HRA8.out
          · exact HRB8.out
          · simp; omega
          rintro e w9 ⟨rfl, hb9⟩
          have ka1 := (hb9.cell (p := ⟨bx, 0, none⟩) hzU).trans k1
          have ka2 := (hb9.cell (p := ⟨bx, 1, none⟩) hzU).trans k2
          have ka3 := (hb9.cell (p := ⟨by', 0, none⟩) hyU).trans j1
          have ka4 := (hb9.cell (p := ⟨by', 1, none⟩) hyU).trans j2
          have hz9 : bx < w9.heap.size := Nat.lt_of_lt_of_le hzU hb9.size
          have hy9 : by' < w9.heap.size := Nat.lt_of_lt_of_le hyU hb9.size))
      | (go_at_call 14
         ((with_reducible refine (toItems_any _ A _ c l rfl ?_ ?_).mono ?_)
          · exact HRW.out _ (bnext HB8.out.drew hb9)
          · omega
          rintro e wa ⟨Aa, ca, rfl, hoa, hba⟩
          have kb1 := (hba.cell (p := ⟨bx, 0, none⟩) hz9).trans ka1
          have kb2 := (hba.cell (p := ⟨bx, 1, none⟩) hz9).trans ka2
          have kb3 := (hba.cell (p := ⟨by', 0, none⟩) hy9).trans ka3
          have kb4 := (hba.cell (p := ⟨by', 1, none⟩) hy9).trans ka4
          have hza : bx < wa.heap.size := Nat.lt_of_lt_of_le hz9 hba.size
          have hya : by' < wa.heap.size := Nat.lt_of_lt_of_le hy9 hba.size))
      | (go_at_call 25
         ((with_reducible refine (countItem_any _ Aa _ ca l (x1, x2) rfl (Rd.of_own hoa) ?_).mono ?_)
          · omega
          rw [← HQC.out]
          rintro e wb ⟨rfl, hbb⟩
          have kc1 := (hbb.cell (p := ⟨bx, 0, none⟩) hza).trans kb1
          have kc2 := (hbb.cell (p := ⟨bx, 1, none⟩) hza).trans kb2
          have kc3 := (hbb.cell (p := ⟨by', 0, none⟩) hya).trans kb3
          have kc4 := (hbb.cell (p := ⟨by', 1, none⟩) hya).trans kb4)))
  have HBB := Lib.hid (bnext (bnext (bnext HB8.out.drew hb9) hba) hbb)
  clear hb9 hba hbb hoa
  go_wp2
  go_ret
  exact ⟨rfl, HBB.out⟩

theorem walk (W : World) (A : Option Addr) (c : Nat) (l : List It) (hr : Rd W A (cls l)) (hn : l.length * 16 ≤ 140737488351232) :
    Calls Try.prog 7 #[.slice A l.length c] W (Gives W (.bool true)) := by
  by_cases h0 : l.length = 0
  · exact walk_out W A c l hr hn h0
  · by_cases hh : Hp.HO ltK l l.length
    · exact walk_yes W A c l hr hn (by omega) hh
    · exact walk_no W A c l hr hn (by omega) hh

theorem contract (H : Type) (enc : TypeId × Value → H) (W : World) (base : Nat) (args : Array Value) (ds gs : List (DataW H)) (before : List MemPlace)
    (hval : ∀ (j : Nat) t v, Try.f7.params[j]? = some t → args[j]? = some v → Value.okWide Try.prog W .any base t v)
    (hW : DataW.Whole enc Try.prog Try.f7.params.toList Rows.fnPopIsRemoveSpec.vars false W args.toList ds gs before)
    (hsz : (DataW.weightsEach Try.prog (Try.f7.params.toList ++ Rows.fnPopIsRemoveSpec.plain.varTypes Try.prog) (ds ++ gs)).all (· ≤ reachBytes) = true) :
    Calls Try.prog 7 args W fun e W' => ∃ v, e = .returned v ∧ Rows.fnPopIsRemoveSpec.post enc Try.prog Try.f7 false true false false W args v W' := by
  have hW' := hW
  obtain ⟨p, q, hA0, hV, rfl, _, _⟩ := hW
  have hA : DataW.TrodAll enc Try.prog W 0 (fun _ => true) true Try.f7.params.toList args.toList ds p := hA0
  rw [Try.params7] at hA hval hsz
  obtain ⟨v0, d0, rfl, rfl, h0⟩ := trodAll_one hA
  obtain ⟨rfl, rfl⟩ := trodVars_none hV
  obtain ⟨A0, c0, l0, rfl, hr0, hn0⟩ := open_items (hval 0 22 v0 rfl rfl) h0 (fun elems spare he => by
    have := sized_slice hsz (j := 0) (t := 22) (e := 44) rfl (by rw [he]; rfl) Try.underlying22
    rw [bytes_lawItem] at this
    exact this)
  have hcall : Calls Try.prog 7 #[.slice A0 l0.length c0] W (Gives W (.bool true)) := walk W A0 c0 l0 hr0 hn0
  refine hcall.mono fun e W' ⟨he, hb⟩ => ⟨_, he, ?_⟩
  exact law_post hW' rfl rfl rfl rfl rfl (by rw [Try.params7]; exact of_decide_eq_true (by kernel_rfl)) hb

set_option maxRecDepth 100000 in
theorem lifted (os : Os) (started : os.Started) (H : Type) (enc : TypeId × Value → H) :
    ReturnsInHanded {} Try.checked os 7 .any (Rows.fnPopIsRemoveSpec.pre6 enc Try.prog Try.f7 Rows.fnPopIsRemoveRow.domain false) (Rows.fnPopIsRemoveSpec.post enc Try.prog Try.f7 false true false false) := by
  refine returnsInHanded_of_change_sized (C := Try.checked) own started (by kernel_rfl) Try.func7
    (ChangeSpec.witness6 (enc := enc) (C := Try.checked) false ⟨#[], #[.slice none 0 0], []⟩ 8 (by kernel_rfl) (by kernel_rfl) (by kernel_rfl) (by kernel_rfl)) ?_
  intro W base args ds gs before hval hW _ hsz _
  exact contract H enc W base args ds gs before hval hW hsz

theorem proved : Rows.FnPopIsRemoveSaid :=
  OpenClaim.holds_of_wide 7 Try.f7 rfl rfl rfl rfl rfl rfl rfl ⟨rfl, rfl, rfl, rfl, rfl⟩ rfl rfl rfl rfl rfl (by kernel_rfl) Try.func7 (by kernel_rfl)
    (of_decide_eq_true (by kernel_rfl)) (by unfold Func.isWrapper; first | (rw [if_pos (by decide +kernel)]; kernel_rfl) | (rw [if_neg (by decide +kernel)]; exact ⟨rfl, rfl⟩))
    (fun os started H enc _ => lifted os started H enc)
end Go.Proofs.Ytfmfndpeiffehaa.fnPopIsRemove
