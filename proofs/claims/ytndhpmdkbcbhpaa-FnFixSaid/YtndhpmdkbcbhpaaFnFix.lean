/-
  FnFix returns true for every list of items, every index and every item. Condition: the reach of a slice that every statement bears.
-/
import Derived.Test.YtndhpmdkbcbhpaaImplFix
import Derived.Test.YtndhpmdkbcbhpaaWith
import Derived.Test.YtndhpmdkbcbhpaaOpen
import Derived.Test.YtndhpmdkbcbhpaaPlainB
namespace Go.Proofs.Ytndhpmdkbcbhpaa.fnFix
open Go.ChangeShapes Go.WideShapes Go.ChangeAt Go.RowKit Go.Shelf Go.Deep Go.Joins
open Hp (g swp Ev)

theorem walk_out (w : World) (A : Option Addr) (n c : Nat) (i v1 v2 : Int) (h : ¬ (0 ≤ i ∧ i < n)) :
    Calls Try.prog 4 #[.slice A n c, .int .i64 i, .agg #[.int .i64 v1, .int .i64 v2]] w (Gives w (.bool true)) := by
  go_enter Try.func4, Try.ntmps4
  go_wp2_with (go_at_call 18; refine (qIndex_no _ A _ c _ h).mono ?_; rintro e w' ⟨rfl, rfl⟩)
  go_ret
  exact ⟨rfl, (Below.refl _ _).alloc (Nat.le_refl _) _⟩

set_option maxHeartbeats 1000000 in
set_option maxRecDepth 100000 in
theorem walk_no (w : World) (A : Option Addr) (c : Nat) (l : List It) (i : Nat) (v1 v2 : Int) (hr : Rd w A (cls l)) (hn : l.length * 16 ≤ 140737488351232) (hi : i < l.length) (hh : ¬ Hp.HO ltK l l.length) :
    Calls Try.prog 4 #[.slice A l.length c, .int .i64 (i : Int), .agg #[.int .i64 v1, .int .i64 v2]] w (Gives w (.bool true)) := by
  have hb0 := (Below.refl w.heap.size w).alloc (Nat.le_refl _) (.cells #[.int .i64 v1, .int .i64 v2] 24)
  have hr0 := hr.below hb0 (Nat.le_refl _)
  have HH := Lib.hid hh
  clear hh hr
  go_enter Try.func4, Try.ntmps4
  go_wp2_with (first
    | (go_at_call 18; refine (qIndex_yes _ A _ c _ (by omega) (by omega)).mono ?_; rintro e w' ⟨rfl, rfl⟩)
    | (go_at_call 15; refine (toItems_any _ A _ c l rfl hr0 (by omega)).mono ?_; rintro e w1 ⟨A1, c1, rfl, ho1, hb1⟩)
    | (go_at_call 19; refine (heapOrdered_any _ A1 _ c1 l false rfl (Rd.of_own ho1) (by omega) ⟨(fun h => by cases h), (fun h => absurd h HH.out)⟩).mono ?_; rintro e w2 ⟨rfl, hb2⟩))
  go_ret
  exact ⟨rfl, bnext (bnext hb0 hb1) hb2⟩

set_option maxHeartbeats 1000000 in
set_option maxRecDepth 100000 in
theorem walk_yes (w : World) (A : Option Addr) (c : Nat) (l : List It) (i : Nat) (v1 v2 : Int) (hr : Rd w A (cls l)) (hn : l.length * 16 ≤ 140737488351232) (hi : i < l.length) (hh : Hp.HO ltK l l.length) :
    Calls Try.prog 4 #[.slice A l.length c, .int .i64 (i : Int), .agg #[.int .i64 v1, .int .i64 v2]] w (Gives w (.bool true)) := by
  have hb0 := (Below.refl w.heap.size w).alloc (Nat.le_refl _) (.cells #[.int .i64 v1, .int .i64 v2] 24)
  have hrw : ∀ W, Below w.heap.size w W → Rd W A (cls l) := fun W hW => hr.below hW (Nat.le_refl _)
  have HRW := Lib.hid hrw
  have HH := Lib.hid hh
  clear hh hr hrw
  go_enter Try.func4, Try.ntmps4
  go_wp2_with fail
  refine (qIndex_yes _ A _ c _ (by omega) (by omega)).mono ?_
  rintro e w' ⟨rfl, rfl⟩
  go_wp2_with fail
  refine (toItems_any _ A _ c l rfl (HRW.out _ hb0) (by omega)).mono ?_
  rintro e w1 ⟨A1, c1, rfl, ho1, hb1⟩
  have HRD1 := Lib.hid (Rd.of_own ho1)
  have hz1 : w.heap.size < w1.heap.size := by have h := hb1.size; simp at h; omega
  have hx1 := (hb1.cell (p := ⟨w.heap.size, 0, none⟩) (by simp)).trans (show (w.alloc (.cells #[.int .i64 v1, .int .i64 v2] 24)).cell? ⟨w.heap.size, 0, none⟩ = some (.int .i64 v1) by simp)
  have hx2 := (hb1.cell (p := ⟨w.heap.size, 1, none⟩) (by simp)).trans (show (w.alloc (.cells #[.int .i64 v1, .int .i64 v2] 24)).cell? ⟨w.heap.size, 1, none⟩ = some (.int .i64 v2) by simp)
  have HB1 := Lib.hid (bnext hb0 hb1)
  clear hb1 ho1 hb0
  go_wp2_with fail
  refine (heapOrdered_any _ A1 _ c1 l true rfl HRD1.out (by omega) ⟨(fun _ => HH.out), (fun _ => rfl)⟩).mono ?_
  rintro e w2 ⟨rfl, hb2⟩
  replace hx1 := (hb2.cell (p := ⟨w.heap.size, 0, none⟩) hz1).trans hx1
  replace hx2 := (hb2.cell (p := ⟨w.heap.size, 1, none⟩) hz1).trans hx2
  have hz2 : w.heap.size < w2.heap.size := Nat.lt_of_lt_of_le hz1 hb2.size
  have HB2 := Lib.hid (bnext HB1.out hb2)
  clear hb2 hz1 HRD1 HB1
  go_wp2_with fail
  obtain ⟨W, hW⟩ : ∃ W, W = w2.alloc (.cells #[.int .i64 v1, .int .i64 v2] 25) := ⟨_, rfl⟩
  rw [← hW]
  have k1 : W.cell? ⟨w2.heap.size, 0, none⟩ = some (.int .i64 v1) := by rw [hW]; simp
  have k2 : W.cell? ⟨w2.heap.size, 1, none⟩ = some (.int .i64 v2) := by rw [hW]; simp
  have hzW : w2.heap.size < W.heap.size := by rw [hW]; simp
  have HBW : Hid (Below w.heap.size w W) := by rw [hW]; exact HB2.out.alloc HB2.out.size _
  clear hW hx1 hx2 HB2
  obtain ⟨bx, hbx⟩ : ∃ bx, bx = w2.heap.size := ⟨_, rfl⟩
  rw [← hbx] at k1 k2 hzW ⊢
  clear hbx
  go_region_held3 (fun w' => w'.cell? ⟨bx, 0, none⟩ = some (.int .i64 v1) ∧ w'.cell? ⟨bx, 1, none⟩ = some (.int .i64 v2))
    (first
      | exact ⟨kb1, kb2⟩
      | exact ⟨ka1, ka2⟩
      | exact ⟨k1, k2⟩
      | go_keep)
    (first
      | (go_at_call 15
         ((with_reducible refine (toItems_any _ A _ c l rfl ?_ ?_).mono ?_)
          · exact HRW.out _ HBW.out.drew
          · omega
          rintro e w3 ⟨A3, c3, rfl, ho3, hb3⟩
          have ka1 := (hb3.cell (p := ⟨bx, 0, none⟩) hzW).trans k1
          have ka2 := (hb3.cell (p := ⟨bx, 1, none⟩) hzW).trans k2
          have hz3 : bx < w3.heap.size := Nat.lt_of_lt_of_le hzW hb3.size))
      | (go_at_call 17
         ((with_reducible refine (heapFix_any _ A3 _ c3 l i (v1, v2) rfl (Rd.of_own ho3) ?_ hi).mono ?_)
          · omega
          rintro e w4 ⟨A4, c4, rfl, ho4, hb4⟩
          have kb1 := (hb4.cell (p := ⟨bx, 0, none⟩) hz3).trans ka1
          have kb2 := (hb4.cell (p := ⟨bx, 1, none⟩) hz3).trans ka2
          have hz4 : bx < w4.heap.size := Nat.lt_of_lt_of_le hz3 hb4.size)))
  have HB4 := Lib.hid (bnext (bnext HBW.out.drew hb3) hb4)
  have HR4 := Lib.hid (Rd.of_own ho4)
  clear hb3 hb4 ho3 ho4 k1 k2 ka1 ka2 hzW hz3 HBW
  go_wp2_with fail
  have tok1 : True := trivial
  go_region_with
    (first
      | (go_at_call 19
         ((with_reducible refine (heapOrdered_any _ A4 _ c4 (Hp.fix ltK (l.set i (v1, v2)) i) true ?_ ?_ ?_ ?_).mono ?_)
          · simp
          · exact HR4.out
          · simp; omega
          · exact ⟨(fun _ => by rw [Hp.length_fix, List.length_set]; exact Hp.fix_HO wo_ltK l i hi HH.out (v1, v2)), (fun _ => rfl)⟩
          rintro e w5 ⟨rfl, hb5⟩
          have kc1 := (hb5.cell (p := ⟨bx, 0, none⟩) hz4).trans kb1
          have kc2 := (hb5.cell (p := ⟨bx, 1, none⟩) hz4).trans kb2
          have hz5 : bx < w5.heap.size := Nat.lt_of_lt_of_le hz4 hb5.size
          have HB5 := Lib.hid (bnext HB4.out.drew hb5)
          have HR5 := Lib.hid ((show Rd w4.drew _ _ from HR4.out).below hb5 (Nat.le_refl _))))
      | (go_at_call 15
         (have _t := tok1
          (with_reducible refine (toItems_any _ A _ c l rfl ?_ ?_).mono ?_)
          · exact HRW.out _ HB5.out
          · omega
          rintro e w6 ⟨A6, c6, rfl, ho6, hb6⟩
          have kd1 := (hb6.cell (p := ⟨bx, 0, none⟩) hz5).trans kc1
          have kd2 := (hb6.cell (p := ⟨bx, 1, none⟩) hz5).trans kc2
          have hz6 : bx < w6.heap.size := Nat.lt_of_lt_of_le hz5 hb6.size
          have HB6 := Lib.hid (bnext HB5.out hb6)
          have HR6 := Lib.hid (HR5.out.below hb6 (Nat.le_refl _))
          have HI6 := Lib.hid (Rd.of_own ho6)
          clear tok1 _t))
      | (go_at_call 15
         ((with_reducible refine (toItems_any _ A _ c l rfl ?_ ?_).mono ?_)
          · exact HRW.out _ HB6.out
          · omega
          rintro e w7 ⟨A7, c7, rfl, ho7, hb7⟩
          have ke1 := (hb7.cell (p := ⟨bx, 0, none⟩) hz6).trans kd1
          have ke2 := (hb7.cell (p := ⟨bx, 1, none⟩) hz6).trans kd2
          have hz7 : bx < w7.heap.size := Nat.lt_of_lt_of_le hz6 hb7.size
          have HB7 := Lib.hid (bnext HB6.out hb7)
          have HR7 := Lib.hid (HR6.out.below hb7 (Nat.le_refl _))
          have HI7 := Lib.hid (HI6.out.below hb7 (Nat.le_refl _))
          obtain ⟨b7, o7, hA7, _, ci1, ci2⟩ := (Rd.of_own ho7).at_ i hi
          subst hA7))
      | (go_at_call 21
         ((with_reducible refine (withoutItem_any _ A6 _ c6 l (g l i) rfl ?_ ?_).mono ?_)
          · exact HI7.out
          · omega
          rintro e w8 ⟨A8, c8, rfl, ho8, hb8⟩
          have kf1 := (hb8.cell (p := ⟨bx, 0, none⟩) hz7).trans ke1
          have kf2 := (hb8.cell (p := ⟨bx, 1, none⟩) hz7).trans ke2
          have hz8 : bx < w8.heap.size := Nat.lt_of_lt_of_le hz7 hb8.size
          have HB8 := Lib.hid (bnext HB7.out hb8)
          have HR8 := Lib.hid (HR7.out.below hb8 (Nat.le_refl _))))
      | (go_at_call 20
         ((with_reducible refine (withItem_any _ A8 _ c8 (l.erase (g l i)) (v1, v2) ?_ ?_ ?_).mono ?_)
          · rfl
          · exact Rd.of_own ho8
          · have := List.length_erase_le (a := g l i) (l := l); omega
          rintro e w9 ⟨A9, c9, rfl, ho9, hb9⟩
          have kg1 := (hb9.cell (p := ⟨bx, 0, none⟩) hz8).trans kf1
          have kg2 := (hb9.cell (p := ⟨bx, 1, none⟩) hz8).trans kf2
          have hz9 : bx < w9.heap.size := Nat.lt_of_lt_of_le hz8 hb9.size
          have HB9 := Lib.hid (bnext HB8.out hb9)
          have HR9 := Lib.hid (HR8.out.below hb9 (Nat.le_refl _))))
      | (go_at_call 16
         ((with_reducible refine (sameElements_perm _ A4 A9 _ _ c4 c9 (Hp.fix ltK (l.set i (v1, v2)) i) (l.erase (g l i) ++ [(v1, v2)]) ?_ ?_ ?_ ?_ ?_ ?_).mono ?_)
          · simp
          · simp
          · exact (Hp.perm_fix ltK _ i (by simpa using hi)).trans (Hp.perm_set_erase hi _)
          · exact HR9.out
          · exact Rd.of_own ho9
          · simp; omega
          rintro e w10 ⟨rfl, hb10⟩
          have kh1 := (hb10.cell (p := ⟨bx, 0, none⟩) hz9).trans kg1
          have kh2 := (hb10.cell (p := ⟨bx, 1, none⟩) hz9).trans kg2
          have HB10 := Lib.hid (bnext HB9.out hb10))))
  all_goals
    clear hb5 hb6 hb7 hb8 hb9 hb10 ho6 ho7 ho8 ho9 kb1 kb2 kc1 kc2 kd1 kd2 ke1 ke2 kf1 kf2 kg1 kg2 kh1 kh2 ci1 ci2
    go_wp2
    go_ret
    exact ⟨rfl, HB10.out⟩

theorem walk (W : World) (A : Option Addr) (c : Nat) (l : List It) (i x1 x2 : Int) (hr : Rd W A (cls l)) (hn : l.length * 16 ≤ 140737488351232) :
    Calls Try.prog 4 #[.slice A l.length c, .int .i64 i, .agg #[.int .i64 x1, .int .i64 x2]] W (Gives W (.bool true)) := by
  by_cases hi : 0 ≤ i ∧ i < l.length
  · obtain ⟨k, rfl⟩ := Int.eq_ofNat_of_zero_le hi.1
    by_cases hh : Hp.HO ltK l l.length
    · exact walk_yes W A c l k x1 x2 hr hn (by omega) hh
    · exact walk_no W A c l k x1 x2 hr hn (by omega) hh
  · exact walk_out W A _ c i x1 x2 hi

theorem contract (H : Type) (enc : TypeId × Value → H) (W : World) (base : Nat) (args : Array Value) (ds gs : List (DataW H)) (before : List MemPlace)
    (hval : ∀ (j : Nat) t v, Try.f4.params[j]? = some t → args[j]? = some v → Value.okWide Try.prog W .any base t v)
    (hW : DataW.Whole enc Try.prog Try.f4.params.toList Rows.fnFixSpec.vars false W args.toList ds gs before)
    (hsz : (DataW.weightsEach Try.prog (Try.f4.params.toList ++ Rows.fnFixSpec.plain.varTypes Try.prog) (ds ++ gs)).all (· ≤ reachBytes) = true) :
    Calls Try.prog 4 args W fun e W' => ∃ v, e = .returned v ∧ Rows.fnFixSpec.post enc Try.prog Try.f4 false true false false W args v W' := by
  have hW' := hW
  obtain ⟨p, q, hA0, hV, rfl, _, _⟩ := hW
  have hA : DataW.TrodAll enc Try.prog W 0 (fun _ => true) true Try.f4.params.toList args.toList ds p := hA0
  rw [Try.params4] at hA hval hsz
  obtain ⟨v0, v1, v2, d0, d1, d2, p0, p1, p2, rfl, rfl, rfl, h0, h1, h2⟩ := trodAll_three hA
  obtain ⟨rfl, rfl⟩ := trodVars_none hV
  obtain ⟨A0, c0, l0, rfl, hr0, hn0⟩ := open_items (hval 0 22 v0 rfl rfl) h0 (fun elems spare he => by
    have := sized_slice hsz (j := 0) (t := 22) (e := 24) rfl (by rw [he]; rfl) Try.underlying22
    rw [bytes_lawItem] at this
    exact this)
  obtain ⟨i1, rfl, rfl, rfl, wi1⟩ := open_int Try.underlying3 (hval 1 3 v1 rfl rfl) h1
  obtain ⟨⟨x2, y2⟩, rfl⟩ := open_item (hval 2 24 v2 rfl rfl) h2
  have hcall : Calls Try.prog 4 #[.slice A0 l0.length c0, .int .i64 i1, .agg #[.int .i64 x2, .int .i64 y2]] W (Gives W (.bool true)) := walk W A0 c0 l0 i1 x2 y2 hr0 hn0
  refine hcall.mono fun e W' ⟨he, hb⟩ => ⟨_, he, ?_⟩
  exact law_post hW' rfl rfl rfl rfl rfl (by rw [Try.params4]; exact of_decide_eq_true (by kernel_rfl)) hb

set_option maxRecDepth 100000 in
theorem lifted (os : Os) (started : os.Started) (H : Type) (enc : TypeId × Value → H) :
    ReturnsInHanded {} Try.checked os 4 .any (Rows.fnFixSpec.pre6 enc Try.prog Try.f4 Rows.fnFixRow.domain false) (Rows.fnFixSpec.post enc Try.prog Try.f4 false true false false) := by
  refine returnsInHanded_of_change_sized (C := Try.checked) own started (by kernel_rfl) Try.func4
    (ChangeSpec.witness6 (enc := enc) (C := Try.checked) false ⟨#[], #[.slice none 0 0, .int .i64 0, .agg #[.int .i64 0, .int .i64 0]], []⟩ 8 (by kernel_rfl) (by kernel_rfl) (by kernel_rfl) (by kernel_rfl)) ?_
  intro W base args ds gs before hval hW _ hsz _
  exact contract H enc W base args ds gs before hval hW hsz

theorem proved : Rows.FnFixSaid :=
  OpenClaim.holds_of_wide 4 Try.f4 rfl rfl rfl rfl rfl rfl rfl ⟨rfl, rfl, rfl, rfl, rfl⟩ rfl rfl rfl rfl rfl (by kernel_rfl) Try.func4 (by kernel_rfl)
    (of_decide_eq_true (by kernel_rfl)) (by unfold Func.isWrapper; first | (rw [if_pos (by decide +kernel)]; kernel_rfl) | (rw [if_neg (by decide +kernel)]; exact ⟨rfl, rfl⟩))
    (fun os started H enc _ => lifted os started H enc)
end Go.Proofs.Ytndhpmdkbcbhpaa.fnFix
