/-
  FnRemoveKeeps returns true for every list of items and every index. Condition: the reach of a slice that every statement bears.
-/
import Derived.Test.YtfmfndpeiffehaaRemCalls
import Derived.Test.YtfmfndpeiffehaaImplRem
import Derived.Test.YtfmfndpeiffehaaWith
import Derived.Test.YtfmfndpeiffehaaOpen
namespace Go.Proofs.Ytfmfndpeiffehaa.fnRemoveKeeps
open Go.ChangeShapes Go.WideShapes Go.ChangeAt Go.RowKit Go.Shelf Go.Deep Go.Joins
open Hp (g swp Ev)

theorem walk_out (w : World) (A : Option Addr) (n c : Nat) (i : Int) (h : ¬ (0 ≤ i ∧ i < n)) :
    Calls Try.prog 6 #[.slice A n c, .int .i64 i] w (Gives w (.bool true)) := by
  by_cases h0 : 0 ≤ i
  · have h1 : decide ((n : Int) ≤ i) = true := decide_eq_true (by omega)
    clear h
    go_enter Try.func6, Try.ntmps6
    go_wp2
    go_ret
    exact ⟨rfl, Below.refl _ _⟩
  · have h1 : i < 0 := by omega
    clear h h0
    go_enter Try.func6, Try.ntmps6
    go_wp2
    go_ret
    exact ⟨rfl, Below.refl _ _⟩

set_option maxHeartbeats 1000000 in
set_option maxRecDepth 100000 in
theorem walk_in (w : World) (A : Option Addr) (c : Nat) (l : List It) (i : Nat) (hr : Rd w A (cls l)) (hn : l.length * 16 ≤ 140737488351232) (hi : i < l.length) :
    Calls Try.prog 6 #[.slice A l.length c, .int .i64 (i : Int)] w (Gives w (.bool true)) := by
  have hrw : ∀ W, Below w.heap.size w W → Rd W A (cls l) := fun W hW => hr.below hW (Nat.le_refl _)
  have HRW := Lib.hid hrw
  have HB0 := Lib.hid (Below.refl w.heap.size w)
  clear hr hrw
  obtain ⟨⟨x1, x2⟩, hx⟩ : ∃ x, g l i = x := ⟨_, rfl⟩
  have HX := Lib.hid hx
  clear hx
  go_enter Try.func6, Try.ntmps6
  go_wp2_with fail
  refine (toItems_any _ A _ c l rfl (HRW.out _ HB0.out) (by omega)).mono ?_
  rintro e w1 ⟨A1, c1, rfl, ho1, hb1⟩
  have HB1 := Lib.hid (bnext HB0.out hb1)
  have HRY1 := Lib.hid (Rd.of_own ho1)
  clear ho1 hb1
  go_wp2_with fail
  refine (heapRemove_any _ A1 _ c1 l i rfl HRY1.out (by omega) hi).mono ?_
  rw [HX.out]
  rintro e w2 ⟨A2, c2, rfl, ho2, hb2⟩
  have HB2 := Lib.hid (bnext HB1.out hb2)
  have HRY2 := Lib.hid (HRY1.out.below hb2 (Nat.le_refl _))
  clear ho2 hb2 HB1 HRY1
  go_wp2_with fail
  obtain ⟨W, hW⟩ : ∃ W, W = w2.alloc (.cells #[.int .i64 x1, .int .i64 x2] 35) := ⟨_, rfl⟩
  rw [← hW]
  have k1 : W.cell? ⟨w2.heap.size, 0, none⟩ = some (.int .i64 x1) := by rw [hW]; simp
  have k2 : W.cell? ⟨w2.heap.size, 1, none⟩ = some (.int .i64 x2) := by rw [hW]; simp
  have hzW : w2.heap.size < W.heap.size := by rw [hW]; simp
  have HBW : Hid (Below w2.heap.size w2 W) := by rw [hW]; exact (Below.refl _ _).alloc (Nat.le_refl _) _
  clear hW
  obtain ⟨bx, hbx⟩ : ∃ bx, bx = w2.heap.size := ⟨_, rfl⟩
  rw [← hbx] at k1 k2 hzW ⊢
  clear hbx
  have HB3 := Lib.hid (bnext HB2.out HBW.out)
  have HRY3 := Lib.hid (HRY2.out.below HBW.out (Nat.le_refl _))
  clear HBW HB2 HRY2
  refine (heapRemoveCalls_any _ A1 _ c1 l i rfl HRY3.out (by omega) hi).mono ?_
  rintro e w4 ⟨A4, c4, rfl, ho4, hb4⟩
  replace k1 := (hb4.cell (p := ⟨bx, 0, none⟩) hzW).trans k1
  replace k2 := (hb4.cell (p := ⟨bx, 1, none⟩) hzW).trans k2
  have hz4 : bx < w4.heap.size := Nat.lt_of_lt_of_le hzW hb4.size
  have HB4 := Lib.hid (bnext HB3.out hb4)
  have HRY4 := Lib.hid (HRY3.out.below hb4 (Nat.le_refl _))
  clear ho4 hb4 HB3 HRY3 hzW
  have tok1 : True := trivial
  go_wp2_with fail
  go_region_with
    (first
      | (go_at_call 14
         (have _t := tok1
          (with_reducible refine (toItems_any _ A _ c l rfl ?_ ?_).mono ?_)
          · exact HRW.out _ HB4.out.drew
          · omega
          rintro e w5 ⟨A5, c5, rfl, ho5, hb5⟩
          have ka1 := (hb5.cell (p := ⟨bx, 0, none⟩) hz4).trans k1
          have ka2 := (hb5.cell (p := ⟨bx, 1, none⟩) hz4).trans k2
          have HB5 := Lib.hid (bnext HB4.out.drew hb5)
          have HRY5 := Lib.hid ((show Rd w4.drew _ _ from HRY4.out).below hb5 (Nat.le_refl _))
          obtain ⟨b5, o5, hA5, _, ci1, ci2⟩ := (Rd.of_own ho5).at_ i hi
          rw [HX.out] at ci1 ci2
          subst hA5
          clear tok1 _t))
      | (go_at_call 14
         ((with_reducible refine (toItems_any _ A _ c l rfl ?_ ?_).mono ?_)
          · exact HRW.out _ HB5.out
          · omega
          rintro e w6 ⟨A6, c6, rfl, ho6, hb6⟩
          have HB6 := Lib.hid (bnext HB5.out hb6)
          have HRY6 := Lib.hid (HRY5.out.below hb6 (Nat.le_refl _))))
      | (go_at_call 22
         ((with_reducible refine (sameItems_eq _ A1 A6 _ _ c1 c6 l rfl rfl ?_ ?_ ?_).mono ?_)
          · exact HRY6.out
          · exact Rd.of_own ho6
          · omega
          rintro e w7 ⟨rfl, hb7⟩
          have HB7 := Lib.hid (bnext HB6.out hb7))))
  all_goals
    clear hb5 hb6 hb7 ho5 ho6 k1 k2 ka1 ka2 ci1 ci2
    go_wp2
    go_ret
    exact ⟨rfl, HB7.out⟩

theorem walk (W : World) (A : Option Addr) (c : Nat) (l : List It) (i : Int) (hr : Rd W A (cls l)) (hn : l.length * 16 ≤ 140737488351232) :
    Calls Try.prog 6 #[.slice A l.length c, .int .i64 i] W (Gives W (.bool true)) := by
  by_cases hi : 0 ≤ i ∧ i < l.length
  · obtain ⟨k, rfl⟩ := Int.eq_ofNat_of_zero_le hi.1
    exact walk_in W A c l k hr hn (by omega)
  · exact walk_out W A _ c i hi

theorem contract (H : Type) (enc : TypeId × Value → H) (W : World) (base : Nat) (args : Array Value) (ds gs : List (DataW H)) (before : List MemPlace)
    (hval : ∀ (j : Nat) t v, Try.f6.params[j]? = some t → args[j]? = some v → Value.okWide Try.prog W .any base t v)
    (hW : DataW.Whole enc Try.prog Try.f6.params.toList Rows.fnRemoveKeepsSpec.vars false W args.toList ds gs before)
    (hsz : (DataW.weightsEach Try.prog (Try.f6.params.toList ++ Rows.fnRemoveKeepsSpec.plain.varTypes Try.prog) (ds ++ gs)).all (· ≤ reachBytes) = true) :
    Calls Try.prog 6 args W fun e W' => ∃ v, e = .returned v ∧ Rows.fnRemoveKeepsSpec.post enc Try.prog Try.f6 false true false false W args v W' := by
  have hW' := hW
  obtain ⟨p, q, hA0, hV, rfl, _, _⟩ := hW
  have hA : DataW.TrodAll enc Try.prog W 0 (fun _ => true) true Try.f6.params.toList args.toList ds p := hA0
  rw [Try.params6] at hA hval hsz
  obtain ⟨v0, v1, d0, d1, p0, p1, rfl, rfl, rfl, h0, h1⟩ := trodAll_two hA
  obtain ⟨rfl, rfl⟩ := trodVars_none hV
  obtain ⟨A0, c0, l0, rfl, hr0, hn0⟩ := open_items (hval 0 22 v0 rfl rfl) h0 (fun elems spare he => by
    have := sized_slice hsz (j := 0) (t := 22) (e := 44) rfl (by rw [he]; rfl) Try.underlying22
    rw [bytes_lawItem] at this
    exact this)
  obtain ⟨i1, rfl, rfl, rfl, wi1⟩ := open_int Try.underlying3 (hval 1 3 v1 rfl rfl) h1
  have hcall : Calls Try.prog 6 #[.slice A0 l0.length c0, .int .i64 i1] W (Gives W (.bool true)) := walk W A0 c0 l0 i1 hr0 hn0
  refine hcall.mono fun e W' ⟨he, hb⟩ => ⟨_, he, ?_⟩
  exact law_post hW' rfl rfl rfl rfl rfl (by rw [Try.params6]; exact of_decide_eq_true (by kernel_rfl)) hb

set_option maxRecDepth 100000 in
theorem lifted (os : Os) (started : os.Started) (H : Type) (enc : TypeId × Value → H) :
    ReturnsInHanded {} Try.checked os 6 .any (Rows.fnRemoveKeepsSpec.pre6 enc Try.prog Try.f6 Rows.fnRemoveKeepsRow.domain false) (Rows.fnRemoveKeepsSpec.post enc Try.prog Try.f6 false true false false) := by
  refine returnsInHanded_of_change_sized (C := Try.checked) own started (by kernel_rfl) Try.func6
    (ChangeSpec.witness6 (enc := enc) (C := Try.checked) false ⟨#[], #[.slice none 0 0, .int .i64 0], []⟩ 8 (by kernel_rfl) (by kernel_rfl) (by kernel_rfl) (by kernel_rfl)) ?_
  intro W base args ds gs before hval hW _ hsz _
  exact contract H enc W base args ds gs before hval hW hsz

theorem proved : Rows.FnRemoveKeepsSaid :=
  OpenClaim.holds_of_wide 6 Try.f6 rfl rfl rfl rfl rfl rfl rfl ⟨rfl, rfl, rfl, rfl, rfl⟩ rfl rfl rfl rfl rfl (by kernel_rfl) Try.func6 (by kernel_rfl)
    (of_decide_eq_true (by kernel_rfl)) (by unfold Func.isWrapper; first | (rw [if_pos (by decide +kernel)]; kernel_rfl) | (rw [if_neg (by decide +kernel)]; exact ⟨rfl, rfl⟩))
    (fun os started H enc _ => lifted os started H enc)
end Go.Proofs.Ytfmfndpeiffehaa.fnRemoveKeeps
