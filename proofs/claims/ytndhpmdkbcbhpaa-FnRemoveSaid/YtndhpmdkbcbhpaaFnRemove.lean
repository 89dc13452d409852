/-
  FnRemove returns true for every list of items and every index. Condition: the reach of a slice that every statement bears.
-/
import Derived.Test.YtndhpmdkbcbhpaaImplRem
import Derived.Test.YtndhpmdkbcbhpaaWith
import Derived.Test.YtndhpmdkbcbhpaaOpen
import Derived.Test.YtndhpmdkbcbhpaaPlainB
namespace Go.Proofs.Ytndhpmdkbcbhpaa.fnRemove
open Go.ChangeShapes Go.WideShapes Go.ChangeAt Go.RowKit Go.Shelf Go.Deep Go.Joins
open Hp (g swp Ev)

theorem walk_out (w : World) (A : Option Addr) (n c : Nat) (i : Int) (h : ¬ (0 ≤ i ∧ i < n)) :
    Calls Try.prog 14 #[.slice A n c, .int .i64 i] w (Gives w (.bool true)) := by
  go_enter Try.func14, Try.ntmps14
  go_wp2_with (go_at_call 18; refine (qIndex_no _ A _ c _ h).mono ?_; rintro e w' ⟨rfl, rfl⟩)
  go_ret
  exact ⟨rfl, Below.refl _ _⟩

set_option maxHeartbeats 1000000 in
set_option maxRecDepth 100000 in
theorem walk_no (w : World) (A : Option Addr) (c : Nat) (l : List It) (i : Nat) (hr : Rd w A (cls l)) (hn : l.length * 16 ≤ 140737488351232) (hi : i < l.length) (hh : ¬ Hp.HO ltK l l.length) :
    Calls Try.prog 14 #[.slice A l.length c, .int .i64 (i : Int)] w (Gives w (.bool true)) := by
  have hb0 := Below.refl w.heap.size w
  have hr0 := hr.below hb0 (Nat.le_refl _)
  have HH := Lib.hid hh
  clear hh hr
  go_enter Try.func14, Try.ntmps14
  go_wp2_with (first
    | (go_at_call 18; refine (qIndex_yes _ A _ c _ (by omega) (by omega)).mono ?_; rintro e w' ⟨rfl, rfl⟩)
    | (go_at_call 15; refine (toItems_any _ A _ c l rfl hr0 (by omega)).mono ?_; rintro e w1 ⟨A1, c1, rfl, ho1, hb1⟩)
    | (go_at_call 19; refine (heapOrdered_any _ A1 _ c1 l false rfl (Rd.of_own ho1) (by omega) ⟨(fun h => by cases h), (fun h => absurd h HH.out)⟩).mono ?_; rintro e w2 ⟨rfl, hb2⟩))
  go_ret
  exact ⟨rfl, bnext (bnext hb0 hb1) hb2⟩

set_option maxHeartbeats 1000000 in
set_option maxRecDepth 100000 in
theorem walk_yes (w : World) (A : Option Addr) (c : Nat) (l : List It) (i : Nat) (hr : Rd w A (cls l)) (hn : l.length * 16 ≤ 140737488351232) (hi : i < l.length) (hh : Hp.HO ltK l l.length) :
    Calls Try.prog 14 #[.slice A l.length c, .int .i64 (i : Int)] w (Gives w (.bool true)) := by
  have hrw : ∀ W, Below w.heap.size w W → Rd W A (cls l) := fun W hW => hr.below hW (Nat.le_refl _)
  have HRW := Lib.hid hrw
  have HH := Lib.hid hh
  clear hh hr hrw
  have hb0 := Below.refl w.heap.size w
  go_enter Try.func14, Try.ntmps14
  go_wp2_with fail
  refine (qIndex_yes _ A _ c _ (by omega) (by omega)).mono ?_
  rintro e w' ⟨rfl, rfl⟩
  go_wp2_with fail
  refine (toItems_any _ A _ c l rfl (HRW.out _ hb0) (by omega)).mono ?_
  rintro e w1 ⟨A1, c1, rfl, ho1, hb1⟩
  have HRD1 := Lib.hid (Rd.of_own ho1)
  have HB1 := Lib.hid (bnext hb0 hb1)
  clear hb1 ho1 hb0
  go_wp2_with fail
  refine (heapOrdered_any _ A1 _ c1 l true rfl HRD1.out (by omega) ⟨(fun _ => HH.out), (fun _ => rfl)⟩).mono ?_
  rintro e w2 ⟨rfl, hb2⟩
  have HB2 := Lib.hid (bnext HB1.out hb2)
  clear hb2 HRD1 HB1
  go_wp2_with fail
  refine (toItems_any _ A _ c l rfl (HRW.out _ HB2.out) (by omega)).mono ?_
  rintro e w3 ⟨A3, c3, rfl, ho3, hb3⟩
  obtain ⟨⟨x1, x2⟩, hx⟩ : ∃ x, g l i = x := ⟨_, rfl⟩
  obtain ⟨b3, o3, hA3, _, ci1, ci2⟩ := (Rd.of_own ho3).at_ i hi
  rw [hx] at ci1 ci2
  subst hA3
  have HX := Lib.hid hx
  have HB3 := Lib.hid (bnext HB2.out hb3)
  clear ho3 hb3 hx HB2
  go_wp2_with fail
  obtain ⟨W, hW⟩ : ∃ W, W = w3.alloc (.cells #[.int .i64 x1, .int .i64 x2] 25) := ⟨_, rfl⟩
  rw [← hW]
  have k1 : W.cell? ⟨w3.heap.size, 0, none⟩ = some (.int .i64 x1) := by rw [hW]; simp
  have k2 : W.cell? ⟨w3.heap.size, 1, none⟩ = some (.int .i64 x2) := by rw [hW]; simp
  have hzW : w3.heap.size < W.heap.size := by rw [hW]; simp
  have HBW : Hid (Below w.heap.size w W) := by rw [hW]; exact HB3.out.alloc HB3.out.size _
  clear hW HB3 ci1 ci2
  obtain ⟨bx, hbx⟩ : ∃ bx, bx = w3.heap.size := ⟨_, rfl⟩
  rw [← hbx] at k1 k2 hzW ⊢
  clear hbx
  refine (toItems_any _ A _ c l rfl (HRW.out _ HBW.out) (by omega)).mono ?_
  rintro e w4 ⟨A4, c4, rfl, ho4, hb4⟩
  have HRD4 := Lib.hid (Rd.of_own ho4)
  have HB4 := Lib.hid (bnext HBW.out hb4)
  replace k1 := (hb4.cell (p := ⟨bx, 0, none⟩) hzW).trans k1
  replace k2 := (hb4.cell (p := ⟨bx, 1, none⟩) hzW).trans k2
  have hz4 : bx < w4.heap.size := Nat.lt_of_lt_of_le hzW hb4.size
  clear ho4 hb4 HBW hzW
  go_wp2_with fail
  refine (heapRemove_any _ A4 _ c4 l i rfl HRD4.out (by omega) hi).mono ?_
  rw [HX.out]
  rintro e w5 ⟨A5, c5, rfl, ho5, hb5⟩
  have HRD5 := Lib.hid (Rd.of_own ho5)
  have HB5 := Lib.hid (bnext HB4.out hb5)
  replace k1 := (hb5.cell (p := ⟨bx, 0, none⟩) hz4).trans k1
  replace k2 := (hb5.cell (p := ⟨bx, 1, none⟩) hz4).trans k2
  have hz5 : bx < w5.heap.size := Nat.lt_of_lt_of_le hz4 hb5.size
  clear ho5 hb5 HB4 hz4 HRD4
  go_wp2_with fail
  obtain ⟨V, hV⟩ : ∃ V, V = w5.alloc (.cells #[.int .i64 x1, .int .i64 x2] 25) := ⟨_, rfl⟩
  rw [← hV]
  have j1 : V.cell? ⟨w5.heap.size, 0, none⟩ = some (.int .i64 x1) := by rw [hV]; simp
  have j2 : V.cell? ⟨w5.heap.size, 1, none⟩ = some (.int .i64 x2) := by rw [hV]; simp
  have m1 : V.cell? ⟨bx, 0, none⟩ = some (.int .i64 x1) := by rw [hV, World.cell?_alloc_lt _ _ _ hz5]; exact k1
  have m2 : V.cell? ⟨bx, 1, none⟩ = some (.int .i64 x2) := by rw [hV, World.cell?_alloc_lt _ _ _ hz5]; exact k2
  have hzV : w5.heap.size < V.heap.size := by rw [hV]; simp
  have hzx : bx < V.heap.size := Nat.lt_trans hz5 hzV
  have HBV : Hid (Below w.heap.size w V) := by rw [hV]; exact HB5.out.alloc HB5.out.size _
  have HRDV : Hid (Rd V A5 (cls (Hp.rem ltK l i).dropLast)) := by rw [hV]; exact HRD5.out.below ((Below.refl _ _).alloc (Nat.le_refl _) _) (Nat.le_refl _)
  clear hV HB5 HRD5 k1 k2
  obtain ⟨by_, hby⟩ : ∃ by_, by_ = w5.heap.size := ⟨_, rfl⟩
  rw [← hby] at j1 j2 hzV ⊢
  clear hby
  go_region_held3 (fun w' => w'.cell? ⟨bx, 0, none⟩ = some (.int .i64 x1) ∧ w'.cell? ⟨bx, 1, none⟩ = some (.int .i64 x2) ∧ w'.cell? ⟨by_, 0, none⟩ = some (.int .i64 x1) ∧ w'.cell? ⟨by_, 1, none⟩ = some (.int .i64 x2))
    (first
      | exact ⟨kd1, kd2, kd3, kd4⟩
      | exact ⟨kc1, kc2, kc3, kc4⟩
      | exact ⟨kb1, kb2, kb3, kb4⟩
      | exact ⟨ka1, ka2, ka3, ka4⟩
      | exact ⟨m1, m2, j1, j2⟩
      | go_keep)
    (first
      | (go_at_call 19
         ((with_reducible refine (heapOrdered_any _ A5 _ c5 (Hp.rem ltK l i).dropLast true ?_ ?_ ?_ ?_).mono ?_)
          · simp
          · exact HRDV.out
          · simp; omega
          · exact ⟨(fun _ => Hp.rem_HO_drop wo_ltK l i hi HH.out), (fun _ => rfl)⟩
          rintro e w6 ⟨rfl, hb6⟩
          have ka1 := (hb6.cell (p := ⟨bx, 0, none⟩) hzx).trans m1
          have ka2 := (hb6.cell (p := ⟨bx, 1, none⟩) hzx).trans m2
          have ka3 := (hb6.cell (p := ⟨by_, 0, none⟩) hzV).trans j1
          have ka4 := (hb6.cell (p := ⟨by_, 1, none⟩) hzV).trans j2
          have hz6 : bx < w6.heap.size := Nat.lt_of_lt_of_le hzx hb6.size
          have hy6 : by_ < w6.heap.size := Nat.lt_of_lt_of_le hzV hb6.size
          have HB6 := Lib.hid (bnext HBV.out.drew hb6)
          have HRD6 := Lib.hid ((show Rd V.drew _ _ from HRDV.out).below hb6 (Nat.le_refl _))))
      | (go_at_call 15
         ((with_reducible refine (toItems_any _ A _ c l rfl ?_ ?_).mono ?_)
          · exact HRW.out _ HB6.out
          · omega
          rintro e w7 ⟨A7, c7, rfl, ho7, hb7⟩
          have kb1 := (hb7.cell (p := ⟨bx, 0, none⟩) hz6).trans ka1
          have kb2 := (hb7.cell (p := ⟨bx, 1, none⟩) hz6).trans ka2
          have kb3 := (hb7.cell (p := ⟨by_, 0, none⟩) hy6).trans ka3
          have kb4 := (hb7.cell (p := ⟨by_, 1, none⟩) hy6).trans ka4
          have hz7 : bx < w7.heap.size := Nat.lt_of_lt_of_le hz6 hb7.size
          have hy7 : by_ < w7.heap.size := Nat.lt_of_lt_of_le hy6 hb7.size
          have HB7 := Lib.hid (bnext HB6.out hb7)
          have HRD7 := Lib.hid (HRD6.out.below hb7 (Nat.le_refl _))))
      | (go_at_call 21
         ((with_reducible refine (withoutItem_any _ A7 _ c7 l (x1, x2) rfl (Rd.of_own ho7) ?_).mono ?_)
          · omega
          rintro e w8 ⟨A8, c8, rfl, ho8, hb8⟩
          have kc1 := (hb8.cell (p := ⟨bx, 0, none⟩) hz7).trans kb1
          have kc2 := (hb8.cell (p := ⟨bx, 1, none⟩) hz7).trans kb2
          have kc3 := (hb8.cell (p := ⟨by_, 0, none⟩) hy7).trans kb3
          have kc4 := (hb8.cell (p := ⟨by_, 1, none⟩) hy7).trans kb4
          have hz8 : bx < w8.heap.size := Nat.lt_of_lt_of_le hz7 hb8.size
          have hy8 : by_ < w8.heap.size := Nat.lt_of_lt_of_le hy7 hb8.size
          have HB8 := Lib.hid (bnext HB7.out hb8)
          have HRD8 := Lib.hid (HRD7.out.below hb8 (Nat.le_refl _))))
      | (go_at_call 16
         ((with_reducible refine (sameElements_perm _ A5 A8 _ _ c5 c8 (Hp.rem ltK l i).dropLast (l.erase (x1, x2)) ?_ ?_ ?_ ?_ ?_ ?_).mono ?_)
          · simp
          · first | rfl | simp
          · rw [← HX.out]; exact Hp.perm_rem_erase ltK l i hi
          · exact HRD8.out
          · exact Rd.of_own ho8
          · simp; omega
          rintro e w9 ⟨rfl, hb9⟩
          have kd1 := (hb9.cell (p := ⟨bx, 0, none⟩) hz8).trans kc1
          have kd2 := (hb9.cell (p := ⟨bx, 1, none⟩) hz8).trans kc2
          have kd3 := (hb9.cell (p := ⟨by_, 0, none⟩) hy8).trans kc3
          have kd4 := (hb9.cell (p := ⟨by_, 1, none⟩) hy8).trans kc4
          have HB9 := Lib.hid (bnext HB8.out hb9))))
  clear hb6 hb7 hb8 hb9 ho7 ho8 m1 m2 j1 j2 ka1 ka2 ka3 ka4 kb1 kb2 kb3 kb4 kc1 kc2 kc3 kc4 kd1 kd2 kd3 kd4
  go_wp2
  go_ret
  exact ⟨rfl, HB9.out⟩

theorem walk (W : World) (A : Option Addr) (c : Nat) (l : List It) (i : Int) (hr : Rd W A (cls l)) (hn : l.length * 16 ≤ 140737488351232) :
    Calls Try.prog 14 #[.slice A l.length c, .int .i64 i] W (Gives W (.bool true)) := by
  by_cases hi : 0 ≤ i ∧ i < l.length
  · obtain ⟨k, rfl⟩ := Int.eq_ofNat_of_zero_le hi.1
    by_cases hh : Hp.HO ltK l l.length
    · exact walk_yes W A c l k hr hn (by omega) hh
    · exact walk_no W A c l k hr hn (by omega) hh
  · exact walk_out W A _ c i hi

theorem contract (H : Type) (enc : TypeId × Value → H) (W : World) (base : Nat) (args : Array Value) (ds gs : List (DataW H)) (before : List MemPlace)
    (hval : ∀ (j : Nat) t v, Try.f14.params[j]? = some t → args[j]? = some v → Value.okWide Try.prog W .any base t v)
    (hW : DataW.Whole enc Try.prog Try.f14.params.toList Rows.fnRemoveSpec.vars false W args.toList ds gs before)
    (hsz : (DataW.weightsEach Try.prog (Try.f14.params.toList ++ Rows.fnRemoveSpec.plain.varTypes Try.prog) (ds ++ gs)).all (· ≤ reachBytes) = true) :
    Calls Try.prog 14 args W fun e W' => ∃ v, e = .returned v ∧ Rows.fnRemoveSpec.post enc Try.prog Try.f14 false true false false W args v W' := by
  have hW' := hW
  obtain ⟨p, q, hA0, hV, rfl, _, _⟩ := hW
  have hA : DataW.TrodAll enc Try.prog W 0 (fun _ => true) true Try.f14.params.toList args.toList ds p := hA0
  rw [Try.params14] at hA hval hsz
  obtain ⟨v0, v1, d0, d1, p0, p1, rfl, rfl, rfl, h0, h1⟩ := trodAll_two hA
  obtain ⟨rfl, rfl⟩ := trodVars_none hV
  obtain ⟨A0, c0, l0, rfl, hr0, hn0⟩ := open_items (hval 0 22 v0 rfl rfl) h0 (fun elems spare he => by
    have := sized_slice hsz (j := 0) (t := 22) (e := 24) rfl (by rw [he]; rfl) Try.underlying22
    rw [bytes_lawItem] at this
    exact this)
  obtain ⟨i1, rfl, rfl, rfl, wi1⟩ := open_int Try.underlying3 (hval 1 3 v1 rfl rfl) h1
  have hcall : Calls Try.prog 14 #[.slice A0 l0.length c0, .int .i64 i1] W (Gives W (.bool true)) := walk W A0 c0 l0 i1 hr0 hn0
  refine hcall.mono fun e W' ⟨he, hb⟩ => ⟨_, he, ?_⟩
  exact law_post hW' rfl rfl rfl rfl rfl (by rw [Try.params14]; exact of_decide_eq_true (by kernel_rfl)) hb

set_option maxRecDepth 100000 in
theorem lifted (os : Os) (started : os.Started) (H : Type) (enc : TypeId × Value → H) :
    ReturnsInHanded {} Try.checked os 14 .any (Rows.fnRemoveSpec.pre6 enc Try.prog Try.f14 Rows.fnRemoveRow.domain false) (Rows.fnRemoveSpec.post enc Try.prog Try.f14 false true false false) := by
  refine returnsInHanded_of_change_sized (C := Try.checked) own started (by kernel_rfl) Try.func14
    (ChangeSpec.witness6 (enc := enc) (C := Try.checked) false ⟨#[], #[.slice none 0 0, .int .i64 0], []⟩ 8 (by kernel_rfl) (by kernel_rfl) (by kernel_rfl) (by kernel_rfl)) ?_
  intro W base args ds gs before hval hW _ hsz _
  exact contract H enc W base args ds gs before hval hW hsz

theorem proved : Rows.FnRemoveSaid :=
  OpenClaim.holds_of_wide 14 Try.f14 rfl rfl rfl rfl rfl rfl rfl ⟨rfl, rfl, rfl, rfl, rfl⟩ rfl rfl rfl rfl rfl (by kernel_rfl) Try.func14 (by kernel_rfl)
    (of_decide_eq_true (by kernel_rfl)) (by unfold Func.isWrapper; first | (rw [if_pos (by decide +kernel)]; kernel_rfl) | (rw [if_neg (by decide +kernel)]; exact ⟨rfl, rfl⟩))
    (fun os started H enc _ => lifted os started H enc)
end Go.Proofs.Ytndhpmdkbcbhpaa.fnRemove
