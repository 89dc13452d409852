/-
  FnLeastRises returns true for every list of items, every index and every item. Condition: the reach of a slice that every statement bears.
-/
import Derived.Test.YtndhpmdkbcbhpaaImplFix
import Derived.Test.YtndhpmdkbcbhpaaAlone
import Derived.Test.YtndhpmdkbcbhpaaOpen
import Derived.Test.YtndhpmdkbcbhpaaPlainC
namespace Go.Proofs.Ytndhpmdkbcbhpaa.fnLeastRises
open Go.ChangeShapes Go.WideShapes Go.ChangeAt Go.RowKit Go.Shelf Go.Deep Go.Joins
open Hp (g swp Ev)

theorem walk_out (w : World) (A : Option Addr) (n c : Nat) (i v1 v2 : Int) (h : ¬ (0 ≤ i ∧ i < n)) :
    Calls Try.prog 9 #[.slice A n c, .int .i64 i, .agg #[.int .i64 v1, .int .i64 v2]] w (Gives w (.bool true)) := by
  go_enter Try.func9, Try.ntmps9
  go_wp2_with (go_at_call 18; refine (qIndex_no _ A _ c _ h).mono ?_; rintro e w' ⟨rfl, rfl⟩)
  go_ret
  exact ⟨rfl, (Below.refl _ _).alloc (Nat.le_refl _) _⟩

set_option maxHeartbeats 1000000 in
set_option maxRecDepth 100000 in
theorem walk_no (w : World) (A : Option Addr) (c : Nat) (l : List It) (i : Nat) (v1 v2 : Int) (hr : Rd w A (cls l)) (hn : l.length * 16 ≤ 140737488351232) (hi : i < l.length) (hh : ¬ Hp.HO ltK l l.length) :
    Calls Try.prog 9 #[.slice A l.length c, .int .i64 (i : Int), .agg #[.int .i64 v1, .int .i64 v2]] w (Gives w (.bool true)) := by
  have hb0 := (Below.refl w.heap.size w).alloc (Nat.le_refl _) (.cells #[.int .i64 v1, .int .i64 v2] 24)
  have hr0 := hr.below hb0 (Nat.le_refl _)
  have HH := Lib.hid hh
  clear hh hr
  go_enter Try.func9, Try.ntmps9
  go_wp2_with (first
    | (go_at_call 18; refine (qIndex_yes _ A _ c _ (by omega) (by omega)).mono ?_; rintro e w' ⟨rfl, rfl⟩)
    | (go_at_call 15; refine (toItems_any _ A _ c l rfl hr0 (by omega)).mono ?_; rintro e w1 ⟨A1, c1, rfl, ho1, hb1⟩)
    | (go_at_call 19; refine (heapOrdered_any _ A1 _ c1 l false rfl (Rd.of_own ho1) (by omega) ⟨(fun h => by cases h), (fun h => absurd h HH.out)⟩).mono ?_; rintro e w2 ⟨rfl, hb2⟩))
  go_ret
  exact ⟨rfl, bnext (bnext hb0 hb1) hb2⟩

set_option maxHeartbeats 1000000 in
set_option maxRecDepth 100000 in
theorem walk_not (w : World) (A : Option Addr) (c : Nat) (l : List It) (i : Nat) (v1 v2 : Int) (hr : Rd w A (cls l)) (hn : l.length * 16 ≤ 140737488351232) (hi : i < l.length) (hh : Hp.HO ltK l l.length) (ha : ¬ ∀ k, k < l.length → k ≠ i → v1 < (g l k).1) :
    Calls Try.prog 9 #[.slice A l.length c, .int .i64 (i : Int), .agg #[.int .i64 v1, .int .i64 v2]] w (Gives w (.bool true)) := by
  have HA := Lib.hid ha
  clear ha
  have hrw : ∀ W, Below w.heap.size w W → Rd W A (cls l) := fun W hW => hr.below hW (Nat.le_refl _)
  have HRW := Lib.hid hrw
  have HH := Lib.hid hh
  clear hh hr hrw
  have hb0 := (Below.refl w.heap.size w).alloc (Nat.le_refl _) (.cells #[.int .i64 v1, .int .i64 v2] 24)
  go_enter Try.func9, Try.ntmps9
  go_wp2_with fail
  refine (qIndex_yes _ A _ c _ (by omega) (by omega)).mono ?_
  rintro e w' ⟨rfl, rfl⟩
  go_wp2_with fail
  refine (toItems_any _ A _ c l rfl (HRW.out _ hb0) (by omega)).mono ?_
  rintro e w1 ⟨A1, c1, rfl, ho1, hb1⟩
  have HRD1 := Lib.hid (Rd.of_own ho1)
  have hz1 : w.heap.size < w1.heap.size := by have h := hb1.size; simp at h; omega
  have hx1 := (hb1.cell (p := ⟨w.heap.size, 0, none⟩) (by simp)).trans (show (w.alloc (.cells #[.int .i64 v1, .int .i64 v2] 24)).cell? ⟨w.heap.size, 0, none⟩ = some (.int .i64 v1) by simp)
  have hx2 := (hb1.cell (p := ⟨w.heap.size, 1, none⟩) (by simp)).trans (show (w.alloc (.cells #[.int .i64 v1, .int .i64 v2] 24)).cell? ⟨w.heap.size, 1, none⟩ = some (.int .i64 v2) by simp)
  have HB1 := Lib.hid (bnext hb0 hb1)
  clear hb1 ho1 hb0
  go_wp2_with fail
  refine (heapOrdered_any _ A1 _ c1 l true rfl HRD1.out (by omega) ⟨(fun _ => HH.out), (fun _ => rfl)⟩).mono ?_
  rintro e w2 ⟨rfl, hb2⟩
  replace hx1 := (hb2.cell (p := ⟨w.heap.size, 0, none⟩) hz1).trans hx1
  replace hx2 := (hb2.cell (p := ⟨w.heap.size, 1, none⟩) hz1).trans hx2
  have hz2 : w.heap.size < w2.heap.size := Nat.lt_of_lt_of_le hz1 hb2.size
  have HB2 := Lib.hid (bnext HB1.out hb2)
  clear hb2 HRD1 HB1 hz1
  go_wp2_with fail
  refine (qAlone_pos _ A _ c l i v1 false rfl (HRW.out _ HB2.out) (by omega) ⟨(fun h => by cases h), (fun h => absurd h HA.out)⟩).mono ?_
  rintro e w3 ⟨rfl, hb3⟩
  have HB3 := Lib.hid (bnext HB2.out hb3)
  clear hb3
  go_wp2
  go_ret
  exact ⟨rfl, HB3.out⟩

set_option maxHeartbeats 1000000 in
set_option maxRecDepth 100000 in
theorem walk_yes (w : World) (A : Option Addr) (c : Nat) (l : List It) (i : Nat) (v1 v2 : Int) (hr : Rd w A (cls l)) (hn : l.length * 16 ≤ 140737488351232) (hi : i < l.length) (hh : Hp.HO ltK l l.length) (ha : ∀ k, k < l.length → k ≠ i → v1 < (g l k).1) :
    Calls Try.prog 9 #[.slice A l.length c, .int .i64 (i : Int), .agg #[.int .i64 v1, .int .i64 v2]] w (Gives w (.bool true)) := by
  have HA := Lib.hid ha
  clear ha
  have hrw : ∀ W, Below w.heap.size w W → Rd W A (cls l) := fun W hW => hr.below hW (Nat.le_refl _)
  have HRW := Lib.hid hrw
  have HH := Lib.hid hh
  clear hh hr hrw
  have hb0 := (Below.refl w.heap.size w).alloc (Nat.le_refl _) (.cells #[.int .i64 v1, .int .i64 v2] 24)
  go_enter Try.func9, Try.ntmps9
  go_wp2_with fail
  refine (qIndex_yes _ A _ c _ (by omega) (by omega)).mono ?_
  rintro e w' ⟨rfl, rfl⟩
  go_wp2_with fail
  refine (toItems_any _ A _ c l rfl (HRW.out _ hb0) (by omega)).mono ?_
  rintro e w1 ⟨A1, c1, rfl, ho1, hb1⟩
  have HRD1 := Lib.hid (Rd.of_own ho1)
  have hz1 : w.heap.size < w1.heap.size := by have h := hb1.size; simp at h; omega
  have hx1 := (hb1.cell (p := ⟨w.heap.size, 0, none⟩) (by simp)).trans (show (w.alloc (.cells #[.int .i64 v1, .int .i64 v2] 24)).cell? ⟨w.heap.size, 0, none⟩ = some (.int .i64 v1) by simp)
  have hx2 := (hb1.cell (p := ⟨w.heap.size, 1, none⟩) (by simp)).trans (show (w.alloc (.cells #[.int .i64 v1, .int .i64 v2] 24)).cell? ⟨w.heap.size, 1, none⟩ = some (.int .i64 v2) by simp)
  have HB1 := Lib.hid (bnext hb0 hb1)
  clear hb1 ho1 hb0
  go_wp2_with fail
  refine (heapOrdered_any _ A1 _ c1 l true rfl HRD1.out (by omega) ⟨(fun _ => HH.out), (fun _ => rfl)⟩).mono ?_
  rintro e w2 ⟨rfl, hb2⟩
  replace hx1 := (hb2.cell (p := ⟨w.heap.size, 0, none⟩) hz1).trans hx1
  replace hx2 := (hb2.cell (p := ⟨w.heap.size, 1, none⟩) hz1).trans hx2
  have hz2 : w.heap.size < w2.heap.size := Nat.lt_of_lt_of_le hz1 hb2.size
  have HB2 := Lib.hid (bnext HB1.out hb2)
  clear hb2 HRD1 HB1 hz1
  go_wp2_with fail
  refine (qAlone_pos _ A _ c l i v1 true rfl (HRW.out _ HB2.out) (by omega) ⟨(fun _ => HA.out), (fun _ => rfl)⟩).mono ?_
  rintro e w3 ⟨rfl, hb3⟩
  replace hx1 := (hb3.cell (p := ⟨w.heap.size, 0, none⟩) hz2).trans hx1
  replace hx2 := (hb3.cell (p := ⟨w.heap.size, 1, none⟩) hz2).trans hx2
  have hz3 : w.heap.size < w3.heap.size := Nat.lt_of_lt_of_le hz2 hb3.size
  have HB3 := Lib.hid (bnext HB2.out hb3)
  clear hb3 HB2 hz2
  go_wp2_with fail
  obtain ⟨W, hW⟩ : ∃ W, W = w3.alloc (.cells #[.int .i64 v1, .int .i64 v2] 25) := ⟨_, rfl⟩
  rw [← hW]
  have k1 : W.cell? ⟨w3.heap.size, 0, none⟩ = some (.int .i64 v1) := by rw [hW]; simp
  have k2 : W.cell? ⟨w3.heap.size, 1, none⟩ = some (.int .i64 v2) := by rw [hW]; simp
  have hzW : w3.heap.size < W.heap.size := by rw [hW]; simp
  have HBW : Hid (Below w.heap.size w W) := by rw [hW]; exact HB3.out.alloc HB3.out.size _
  clear hW hx1 hx2 HB3
  obtain ⟨bx, hbx⟩ : ∃ bx, bx = w3.heap.size := ⟨_, rfl⟩
  rw [← hbx] at k1 k2 hzW ⊢
  clear hbx
  go_region_held3 (fun w' => w'.cell? ⟨bx, 0, none⟩ = some (.int .i64 v1) ∧ w'.cell? ⟨bx, 1, none⟩ = some (.int .i64 v2))
    (first
      | exact ⟨kb1, kb2⟩
      | exact ⟨ka1, ka2⟩
      | exact ⟨k1, k2⟩
      | go_keep)
    (first
      | (go_at_call 15
         ((with_reducible refine (toItems_any _ A _ c l rfl ?_ ?_).mono ?_)
          · exact HRW.out _ HBW.out.drew
          · omega
          rintro e w3 ⟨A3, c3, rfl, ho3, hb3⟩
          have ka1 := (hb3.cell (p := ⟨bx, 0, none⟩) hzW).trans k1
          have ka2 := (hb3.cell (p := ⟨bx, 1, none⟩) hzW).trans k2
          have hz3 : bx < w3.heap.size := Nat.lt_of_lt_of_le hzW hb3.size))
      | (go_at_call 17
         ((with_reducible refine (heapFix_any _ A3 _ c3 l i (v1, v2) rfl (Rd.of_own ho3) ?_ hi).mono ?_)
          · omega
          rintro e w4 ⟨A4, c4, rfl, ho4, hb4⟩
          have kb1 := (hb4.cell (p := ⟨bx, 0, none⟩) hz3).trans ka1
          have kb2 := (hb4.cell (p := ⟨bx, 1, none⟩) hz3).trans ka2
          have hz4 : bx < w4.heap.size := Nat.lt_of_lt_of_le hz3 hb4.size)))
  have HB4 := Lib.hid (bnext (bnext HBW.out.drew hb3) hb4)
  have hl4 := Hp.length_fix ltK (l.set i (v1, v2)) i
  obtain ⟨b4, o4, hA4, _, ci1, ci2⟩ := (Rd.of_own ho4).at_ 0 (by rw [hl4, List.length_set]; omega)
  rw [Hp.fix_least wo_ltK l i (v1, v2) hi HH.out (fun k hk hki => by simpa [ltK] using HA.out k hk hki)] at ci1 ci2
  rw [Nat.zero_mul, Nat.add_zero] at ci1 ci2
  subst hA4
  clear hl4
  clear hb3 hb4 ho3 ho4 k1 k2 ka1 ka2 hzW hz3 HBW
  have hq : ((l.length : Int) == (l.length : Int)) = true := by simp
  have hl0 : 0 < l.length := by omega
  go_wp2_with fail
  go_quiet (fail)
  go_wp2
  go_ret
  exact ⟨rfl, below_drewN HB4.out _⟩

theorem walk (W : World) (A : Option Addr) (c : Nat) (l : List It) (i x1 x2 : Int) (hr : Rd W A (cls l)) (hn : l.length * 16 ≤ 140737488351232) :
    Calls Try.prog 9 #[.slice A l.length c, .int .i64 i, .agg #[.int .i64 x1, .int .i64 x2]] W (Gives W (.bool true)) := by
  by_cases hi : 0 ≤ i ∧ i < l.length
  · obtain ⟨j, rfl⟩ := Int.eq_ofNat_of_zero_le hi.1
    by_cases hh : Hp.HO ltK l l.length
    · by_cases ha : ∀ k, k < l.length → k ≠ j → x1 < (g l k).1
      · exact walk_yes W A c l j x1 x2 hr hn (by omega) hh ha
      · exact walk_not W A c l j x1 x2 hr hn (by omega) hh ha
    · exact walk_no W A c l j x1 x2 hr hn (by omega) hh
  · exact walk_out W A _ c i x1 x2 hi

theorem contract (H : Type) (enc : TypeId × Value → H) (W : World) (base : Nat) (args : Array Value) (ds gs : List (DataW H)) (before : List MemPlace)
    (hval : ∀ (j : Nat) t v, Try.f9.params[j]? = some t → args[j]? = some v → Value.okWide Try.prog W .any base t v)
    (hW : DataW.Whole enc Try.prog Try.f9.params.toList Rows.fnLeastRisesSpec.vars false W args.toList ds gs before)
    (hsz : (DataW.weightsEach Try.prog (Try.f9.params.toList ++ Rows.fnLeastRisesSpec.plain.varTypes Try.prog) (ds ++ gs)).all (· ≤ reachBytes) = true) :
    Calls Try.prog 9 args W fun e W' => ∃ v, e = .returned v ∧ Rows.fnLeastRisesSpec.post enc Try.prog Try.f9 false true false false W args v W' := by
  have hW' := hW
  obtain ⟨p, q, hA0, hV, rfl, _, _⟩ := hW
  have hA : DataW.TrodAll enc Try.prog W 0 (fun _ => true) true Try.f9.params.toList args.toList ds p := hA0
  rw [Try.params9] at hA hval hsz
  obtain ⟨v0, v1, v2, d0, d1, d2, p0, p1, p2, rfl, rfl, rfl, h0, h1, h2⟩ := trodAll_three hA
  obtain ⟨rfl, rfl⟩ := trodVars_none hV
  obtain ⟨A0, c0, l0, rfl, hr0, hn0⟩ := open_items (hval 0 22 v0 rfl rfl) h0 (fun elems spare he => by
    have := sized_slice hsz (j := 0) (t := 22) (e := 24) rfl (by rw [he]; rfl) Try.underlying22
    rw [bytes_lawItem] at this
    exact this)
  obtain ⟨i1, rfl, rfl, rfl, wi1⟩ := open_int Try.underlying3 (hval 1 3 v1 rfl rfl) h1
  obtain ⟨⟨x2, y2⟩, rfl⟩ := open_item (hval 2 24 v2 rfl rfl) h2
  have hcall : Calls Try.prog 9 #[.slice A0 l0.length c0, .int .i64 i1, .agg #[.int .i64 x2, .int .i64 y2]] W (Gives W (.bool true)) := walk W A0 c0 l0 i1 x2 y2 hr0 hn0
  refine hcall.mono fun e W' ⟨he, hb⟩ => ⟨_, he, ?_⟩
  exact law_post hW' rfl rfl rfl rfl rfl (by rw [Try.params9]; exact of_decide_eq_true (by kernel_rfl)) hb

set_option maxRecDepth 100000 in
theorem lifted (os : Os) (started : os.Started) (H : Type) (enc : TypeId × Value → H) :
    ReturnsInHanded {} Try.checked os 9 .any (Rows.fnLeastRisesSpec.pre6 enc Try.prog Try.f9 Rows.fnLeastRisesRow.domain false) (Rows.fnLeastRisesSpec.post enc Try.prog Try.f9 false true false false) := by
  refine returnsInHanded_of_change_sized (C := Try.checked) own started (by kernel_rfl) Try.func9
    (ChangeSpec.witness6 (enc := enc) (C := Try.checked) false ⟨#[], #[.slice none 0 0, .int .i64 0, .agg #[.int .i64 0, .int .i64 0]], []⟩ 8 (by kernel_rfl) (by kernel_rfl) (by kernel_rfl) (by kernel_rfl)) ?_
  intro W base args ds gs before hval hW _ hsz _
  exact contract H enc W base args ds gs before hval hW hsz

theorem proved : Rows.FnLeastRisesSaid :=
  OpenClaim.holds_of_wide 9 Try.f9 rfl rfl rfl rfl rfl rfl rfl ⟨rfl, rfl, rfl, rfl, rfl⟩ rfl rfl rfl rfl rfl (by kernel_rfl) Try.func9 (by kernel_rfl)
    (of_decide_eq_true (by kernel_rfl)) (by unfold Func.isWrapper; first | (rw [if_pos (by decide +kernel)]; kernel_rfl) | (rw [if_neg (by decide +kernel)]; exact ⟨rfl, rfl⟩))
    (fun os started H enc _ => lifted os started H enc)
end Go.Proofs.Ytndhpmdkbcbhpaa.fnLeastRises
