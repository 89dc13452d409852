/-
  FnAnyFix returns true for every list of items, every index and every item. Condition: the reach of a slice that every statement bears.
-/
import Derived.Test.YtndhpmdkbcbhpaaImplFix
import Derived.Test.YtndhpmdkbcbhpaaWith
import Derived.Test.YtndhpmdkbcbhpaaOpen
namespace Go.Proofs.Ytndhpmdkbcbhpaa.fnAnyFix
open Go.ChangeShapes Go.WideShapes Go.ChangeAt Go.RowKit Go.Shelf Go.Deep Go.Joins
open Hp (g swp Ev)

theorem walk_out (w : World) (A : Option Addr) (n c : Nat) (i v1 v2 : Int) (h : ¬ (0 ≤ i ∧ i < n)) :
    Calls Try.prog 3 #[.slice A n c, .int .i64 i, .agg #[.int .i64 v1, .int .i64 v2]] w (Gives w (.bool true)) := by
  by_cases h0 : 0 ≤ i
  · have h1 : decide ((n : Int) ≤ i) = true := decide_eq_true (by omega)
    clear h
    go_enter Try.func3, Try.ntmps3
    go_wp2
    go_ret
    exact ⟨rfl, (Below.refl _ _).alloc (Nat.le_refl _) _⟩
  · have h1 : i < 0 := by omega
    clear h h0
    go_enter Try.func3, Try.ntmps3
    go_wp2
    go_ret
    exact ⟨rfl, (Below.refl _ _).alloc (Nat.le_refl _) _⟩

set_option maxHeartbeats 1000000 in
set_option maxRecDepth 100000 in
theorem walk_in (w : World) (A : Option Addr) (n c : Nat) (l : List It) (i : Nat) (v1 v2 : Int) (hl : n = l.length) (hr : Rd w A (cls l)) (hn : l.length * 16 ≤ 140737488351232) (hi : i < l.length) :
    Calls Try.prog 3 #[.slice A n c, .int .i64 (i : Int), .agg #[.int .i64 v1, .int .i64 v2]] w (Gives w (.bool true)) := by
  subst hl
  have hrw : ∀ W, Below w.heap.size w W → Rd W A (cls l) := fun W hW => hr.below hW (Nat.le_refl _)
  have HRW := Lib.hid hrw
  clear hrw hr
  go_enter Try.func3, Try.ntmps3
  go_wp2_with fail
  have hb0 := ((Below.refl w.heap.size w).alloc (Nat.le_refl _) (.cells #[.int .i64 v1, .int .i64 v2] 24)).alloc (by simp) (.cells #[.int .i64 v1, .int .i64 v2] 25)
  refine (toItems_any _ A _ c l rfl (HRW.out _ hb0) (by omega)).mono ?_
  rintro e w1 ⟨A1, c1, rfl, ho1, hb1⟩
  have hs1 := hb1.size
  obtain ⟨gb, hA1⟩ : ∃ gb, A1 = some ⟨gb, 0, none⟩ := by
    rcases ho1.2 with ⟨_, h0⟩ | ⟨gb, cap, cur, hv, _⟩
    · omega
    · exact ⟨gb, by injection hv⟩
  subst hA1
  have hx1 : w1.cell? ⟨w.heap.size + 1, 0, none⟩ = some (.int .i64 v1) := by
    rw [hb1.cell (p := ⟨w.heap.size + 1, 0, none⟩) (by simp)]; simp
  have hx2 : w1.cell? ⟨w.heap.size + 1, 1, none⟩ = some (.int .i64 v2) := by
    rw [hb1.cell (p := ⟨w.heap.size + 1, 1, none⟩) (by simp)]; simp
  have ci := (ho1.cellAt (i * 2) (by omega)).trans (cls_at l i hi).1
  have ci' := (ho1.cellAt (i * 2 + 1) (by omega)).trans (cls_at l i hi).2
  have hf := fun k => ho1.frozenAt k
  have hlt := ho1.lt gb rfl
  have HO1 := Lib.hid (own_store ho1 rfl i hi (v1, v2))
  have hgz : gb < w1.heap.size := hlt.2
  have hgw : w.heap.size + 1 < gb := by have := hlt.1; simp at this; omega
  have hbb : Below w.heap.size w ((w1.setCell ⟨gb, i * 2, none⟩ (.int .i64 v1)).setCell ⟨gb, i * 2 + 1, none⟩ (.int .i64 v2)) :=
    ((hb0.trans (hb1.mono (by simp; omega))).setCell (by simp; omega) _).setCell (by simp; omega) _
  have HBB := Lib.hid hbb
  clear ho1 hb1 hbb hb0 hs1 hlt
  go_wp2_with fail
  generalize hW : (w1.setCell ⟨gb, i * 2, none⟩ (.int .i64 v1)).setCell ⟨gb, i * 2 + 1, none⟩ (.int .i64 v2) = W at HO1 HBB ⊢
  have kW1 : W.cell? ⟨w.heap.size + 1, 0, none⟩ = some (.int .i64 v1) := by
    rw [← hW, World.cell?_setCell_other _ _ _ _ (by simp <;> omega), World.cell?_setCell_other _ _ _ _ (by simp <;> omega)]; exact hx1
  have kW2 : W.cell? ⟨w.heap.size + 1, 1, none⟩ = some (.int .i64 v2) := by
    rw [← hW, World.cell?_setCell_other _ _ _ _ (by simp <;> omega), World.cell?_setCell_other _ _ _ _ (by simp <;> omega)]; exact hx2
  have hzW : w.heap.size + 1 < W.heap.size := by rw [← hW]; simp [World.setCell]; omega
  clear hW hx1 hx2 ci ci' hf hgz hgw
  go_region_held3 (fun w' => w'.cell? ⟨w.heap.size + 1, 0, none⟩ = some (.int .i64 v1) ∧ w'.cell? ⟨w.heap.size + 1, 1, none⟩ = some (.int .i64 v2))
    (first
      | exact ⟨kd1, kd2⟩
      | exact ⟨kc1, kc2⟩
      | exact ⟨kb1, kb2⟩
      | exact ⟨kW1, kW2⟩
      | go_keep)
    (first
      | (go_at_call 15
         ((with_reducible refine (toItems_any _ A _ c l rfl ?_ ?_).mono ?_)
          · exact HRW.out _ HBB.out.drew
          · omega
          rintro e w2 ⟨A2, c2, rfl, ho2, hb2⟩
          have kb1 := (hb2.cell (p := ⟨w.heap.size + 1, 0, none⟩) hzW).trans kW1
          have kb2 := (hb2.cell (p := ⟨w.heap.size + 1, 1, none⟩) hzW).trans kW2
          have hz2 : w.heap.size + 1 < w2.heap.size := Nat.lt_of_lt_of_le hzW hb2.size))
      | (go_at_call 17
         ((with_reducible refine (heapFix_any _ A2 _ c2 l i (v1, v2) rfl (Rd.of_own ho2) ?_ hi).mono ?_)
          · omega
          rintro e w3 ⟨A3, c3, rfl, ho3, hb3⟩
          have kc1 := (hb3.cell (p := ⟨w.heap.size + 1, 0, none⟩) hz2).trans kb1
          have kc2 := (hb3.cell (p := ⟨w.heap.size + 1, 1, none⟩) hz2).trans kb2
          have hz3 : w.heap.size + 1 < w3.heap.size := Nat.lt_of_lt_of_le hz2 hb3.size))
      | (go_at_call 16
         ((with_reducible refine (sameElements_perm _ A3 _ _ _ c3 c1 (Hp.fix ltK (l.set i (v1, v2)) i) (l.set i (v1, v2)) ?_ ?_ ?_ ?_ ?_ ?_).mono ?_)
          · simp
          · simp
          · exact Hp.perm_fix ltK _ i (by simpa using hi)
          · exact Rd.of_own ho3
          · exact ((show Rd W.drew _ _ from Rd.of_own HO1.out).below hb2 (Nat.le_refl _)).below hb3 (Nat.le_refl _)
          · simp; omega
          rintro e w4 ⟨rfl, hb4⟩
          have kd1 := (hb4.cell (p := ⟨w.heap.size + 1, 0, none⟩) hz3).trans kc1
          have kd2 := (hb4.cell (p := ⟨w.heap.size + 1, 1, none⟩) hz3).trans kc2)))
  have hb : Below w.heap.size w w4 := ((HBB.out.drew.trans (hb2.mono HBB.out.size)).trans (hb3.mono (Nat.le_trans HBB.out.size hb2.size))).trans (hb4.mono (Nat.le_trans (Nat.le_trans HBB.out.size hb2.size) hb3.size))
  have HB := Lib.hid hb
  clear hb hb2 hb3 hb4 kd1 kd2 kc1 kc2 kb1 kb2 kW1 kW2 ho2 ho3
  go_wp2
  go_ret
  exact ⟨rfl, HB.out⟩

theorem walk (W : World) (A : Option Addr) (c : Nat) (l : List It) (i x1 x2 : Int) (hr : Rd W A (cls l)) (hn : l.length * 16 ≤ 140737488351232) :
    Calls Try.prog 3 #[.slice A l.length c, .int .i64 i, .agg #[.int .i64 x1, .int .i64 x2]] W (Gives W (.bool true)) := by
  by_cases hi : 0 ≤ i ∧ i < l.length
  · obtain ⟨k, rfl⟩ := Int.eq_ofNat_of_zero_le hi.1
    exact walk_in W A _ c l k x1 x2 rfl hr hn (by omega)
  · exact walk_out W A _ c i x1 x2 hi

theorem contract (H : Type) (enc : TypeId × Value → H) (W : World) (base : Nat) (args : Array Value) (ds gs : List (DataW H)) (before : List MemPlace)
    (hval : ∀ (j : Nat) t v, Try.f3.params[j]? = some t → args[j]? = some v → Value.okWide Try.prog W .any base t v)
    (hW : DataW.Whole enc Try.prog Try.f3.params.toList Rows.fnAnyFixSpec.vars false W args.toList ds gs before)
    (hsz : (DataW.weightsEach Try.prog (Try.f3.params.toList ++ Rows.fnAnyFixSpec.plain.varTypes Try.prog) (ds ++ gs)).all (· ≤ reachBytes) = true) :
    Calls Try.prog 3 args W fun e W' => ∃ v, e = .returned v ∧ Rows.fnAnyFixSpec.post enc Try.prog Try.f3 false true false false W args v W' := by
  have hW' := hW
  obtain ⟨p, q, hA0, hV, rfl, _, _⟩ := hW
  have hA : DataW.TrodAll enc Try.prog W 0 (fun _ => true) true Try.f3.params.toList args.toList ds p := hA0
  rw [Try.params3] at hA hval hsz
  obtain ⟨v0, v1, v2, d0, d1, d2, p0, p1, p2, rfl, rfl, rfl, h0, h1, h2⟩ := trodAll_three hA
  obtain ⟨rfl, rfl⟩ := trodVars_none hV
  obtain ⟨A0, c0, l0, rfl, hr0, hn0⟩ := open_items (hval 0 22 v0 rfl rfl) h0 (fun elems spare he => by
    have := sized_slice hsz (j := 0) (t := 22) (e := 24) rfl (by rw [he]; rfl) Try.underlying22
    rw [bytes_lawItem] at this
    exact this)
  obtain ⟨i1, rfl, rfl, rfl, wi1⟩ := open_int Try.underlying3 (hval 1 3 v1 rfl rfl) h1
  obtain ⟨⟨x2, y2⟩, rfl⟩ := open_item (hval 2 24 v2 rfl rfl) h2
  have hcall : Calls Try.prog 3 #[.slice A0 l0.length c0, .int .i64 i1, .agg #[.int .i64 x2, .int .i64 y2]] W (Gives W (.bool true)) := walk W A0 c0 l0 i1 x2 y2 hr0 hn0
  refine hcall.mono fun e W' ⟨he, hb⟩ => ⟨_, he, ?_⟩
  exact law_post hW' rfl rfl rfl rfl rfl (by rw [Try.params3]; exact of_decide_eq_true (by kernel_rfl)) hb

set_option maxRecDepth 100000 in
theorem lifted (os : Os) (started : os.Started) (H : Type) (enc : TypeId × Value → H) :
    ReturnsInHanded {} Try.checked os 3 .any (Rows.fnAnyFixSpec.pre6 enc Try.prog Try.f3 Rows.fnAnyFixRow.domain false) (Rows.fnAnyFixSpec.post enc Try.prog Try.f3 false true false false) := by
  refine returnsInHanded_of_change_sized (C := Try.checked) own started (by kernel_rfl) Try.func3
    (ChangeSpec.witness6 (enc := enc) (C := Try.checked) false ⟨#[], #[.slice none 0 0, .int .i64 0, .agg #[.int .i64 0, .int .i64 0]], []⟩ 8 (by kernel_rfl) (by kernel_rfl) (by kernel_rfl) (by kernel_rfl)) ?_
  intro W base args ds gs before hval hW _ hsz _
  exact contract H enc W base args ds gs before hval hW hsz

theorem proved : Rows.FnAnyFixSaid :=
  OpenClaim.holds_of_wide 3 Try.f3 rfl rfl rfl rfl rfl rfl rfl ⟨rfl, rfl, rfl, rfl, rfl⟩ rfl rfl rfl rfl rfl (by kernel_rfl) Try.func3 (by kernel_rfl)
    (of_decide_eq_true (by kernel_rfl)) (by unfold Func.isWrapper; first | (rw [if_pos (by decide +kernel)]; kernel_rfl) | (rw [if_neg (by decide +kernel)]; exact ⟨rfl, rfl⟩))
    (fun os started H enc _ => lifted os started H enc)
end Go.Proofs.Ytndhpmdkbcbhpaa.fnAnyFix
