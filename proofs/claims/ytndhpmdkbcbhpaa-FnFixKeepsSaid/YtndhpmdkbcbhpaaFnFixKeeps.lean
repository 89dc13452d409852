/-
  FnFixKeeps returns true for every list of items, every index and every item. Condition: the reach of a slice that every statement bears.
-/
import Derived.Test.YtndhpmdkbcbhpaaCalls
import Derived.Test.YtndhpmdkbcbhpaaOpen
namespace Go.Proofs.Ytndhpmdkbcbhpaa.fnFixKeeps
open Go.ChangeShapes Go.WideShapes Go.ChangeAt Go.RowKit Go.Shelf Go.Deep Go.Joins
open Hp (g swp Ev)

theorem walk_out (w : World) (A : Option Addr) (n c : Nat) (i v1 v2 : Int) (h : ¬ (0 ≤ i ∧ i < n)) :
    Calls Try.prog 11 #[.slice A n c, .int .i64 i, .agg #[.int .i64 v1, .int .i64 v2]] w (Gives w (.bool true)) := by
  by_cases h0 : 0 ≤ i
  · have h1 : decide ((n : Int) ≤ i) = true := decide_eq_true (by omega)
    clear h
    go_enter Try.func11, Try.ntmps11
    go_wp2
    go_ret
    exact ⟨rfl, (Below.refl _ _).alloc (Nat.le_refl _) _⟩
  · have h1 : i < 0 := by omega
    clear h h0
    go_enter Try.func11, Try.ntmps11
    go_wp2
    go_ret
    exact ⟨rfl, (Below.refl _ _).alloc (Nat.le_refl _) _⟩

set_option maxHeartbeats 1000000 in
set_option maxRecDepth 100000 in
theorem walk_in (w : World) (A : Option Addr) (c : Nat) (l : List It) (i : Nat) (v1 v2 : Int) (hr : Rd w A (cls l)) (hn : l.length * 16 ≤ 140737488351232) (hi : i < l.length) :
    Calls Try.prog 11 #[.slice A l.length c, .int .i64 (i : Int), .agg #[.int .i64 v1, .int .i64 v2]] w (Gives w (.bool true)) := by
  have hrw : ∀ W, Below w.heap.size w W → Rd W A (cls l) := fun W hW => hr.below hW (Nat.le_refl _)
  have HRW := Lib.hid hrw
  clear hr hrw
  have hk0 : (0 : Int) ≤ (i : Int) := Int.natCast_nonneg _
  have h00 := (Below.refl w.heap.size w).alloc (Nat.le_refl _) (.cells #[.int .i64 v1, .int .i64 v2] 24)
  have H00 := Lib.hid h00
  clear h00
  go_enter Try.func11, Try.ntmps11
  go_wp2_with fail
  go_region_held3 (fun w' => w'.cell? ⟨w.heap.size, 0, none⟩ = some (.int .i64 v1) ∧ w'.cell? ⟨w.heap.size, 1, none⟩ = some (.int .i64 v2))
    (first
      | go_keep
      | exact ⟨ka1, ka2⟩
      | (refine ⟨?_, ?_⟩ <;> (rw [World.cell?_setCell_other _ _ _ _ (by simp <;> omega), World.cell?_setCell_other _ _ _ _ (by simp <;> omega)]; assumption)))
    (first
      | (go_at_call 15
         ((with_reducible refine (toItems_any _ A _ c l rfl ?_ ?_).mono ?_)
          · exact HRW.out _ (by first | exact H00.out.drew | exact H00.out.drew.alloc H00.out.size _)
          · omega
          rintro e w3 ⟨A3, c3, rfl, ho3, hb3⟩
          have ka1 : w3.cell? ⟨w.heap.size, 0, none⟩ = some (.int .i64 v1) := by rw [hb3.cell (by simp <;> omega)]; simp
          have ka2 : w3.cell? ⟨w.heap.size, 1, none⟩ = some (.int .i64 v2) := by rw [hb3.cell (by simp <;> omega)]; simp
          have hz3 : w.heap.size < w3.heap.size := by have h := hb3.size; simp at h; omega
          (try have kn1 : w3.cell? ⟨w.heap.size + 1, 0, none⟩ = some (.int .i64 0) := by rw [hb3.cell (by simp)]; simp)
          (try have kn2 : w3.cell? ⟨w.heap.size + 1, 1, none⟩ = some (.int .i64 0) := by rw [hb3.cell (by simp)]; simp)
          (try have kn3 : w3.frozen? ⟨w.heap.size + 1, 0, none⟩ = false := by rw [hb3.frozen (by simp)]; simp)
          (try have kn4 : w3.frozen? ⟨w.heap.size + 1, 1, none⟩ = false := by rw [hb3.frozen (by simp)]; simp))))
  · obtain ⟨W, hW⟩ : ∃ W, W = w3.alloc (.cells #[.int .i64 v1, .int .i64 v2] 25) := ⟨_, rfl⟩
    rw [← hW]
    have k1 : W.cell? ⟨w3.heap.size, 0, none⟩ = some (.int .i64 v1) := by rw [hW]; simp
    have k2 : W.cell? ⟨w3.heap.size, 1, none⟩ = some (.int .i64 v2) := by rw [hW]; simp
    have hzW : w3.heap.size < W.heap.size := by rw [hW]; simp
    have HBW : Hid (Below w.heap.size w W) := by rw [hW]; exact (bnext H00.out.drew hb3).alloc (bnext H00.out.drew hb3).size _
    have HRY : Hid (Rd W A3 (cls l)) := by rw [hW]; exact (Rd.of_own ho3).below ((Below.refl _ _).alloc (Nat.le_refl _) _) (Nat.le_refl _)
    clear hW ho3 hb3 ka1 ka2 hz3 
    obtain ⟨bx, hbx⟩ : ∃ bx, bx = w3.heap.size := ⟨_, rfl⟩
    rw [← hbx] at k1 k2 hzW ⊢
    clear hbx
    go_wp2_with fail
    refine (heapFix_any _ A3 _ c3 l i (v1, v2) rfl HRY.out (by omega) hi).mono ?_
    rintro e w4 ⟨A4, c4, rfl, ho4, hb4⟩
    replace k1 := (hb4.cell (p := ⟨bx, 0, none⟩) hzW).trans k1
    replace k2 := (hb4.cell (p := ⟨bx, 1, none⟩) hzW).trans k2
    have HB4 := Lib.hid (bnext HBW.out hb4)
    have HRY4 := Lib.hid (HRY.out.below hb4 (Nat.le_refl _))
    clear ho4 hb4 HBW HRY
    go_wp2_with fail
    refine (heapFixCalls_any _ A3 _ c3 l i (v1, v2) rfl HRY4.out (by omega) hi).mono ?_
    rintro e w5 ⟨A5, c5, rfl, ho5, hb5⟩
    have HB5 := Lib.hid (bnext HB4.out hb5)
    have HRY5 := Lib.hid (HRY4.out.below hb5 (Nat.le_refl _))
    clear ho5 hb5 HB4 HRY4 k1 k2
    have hqq : ((l.length : Int) == (l.length : Int)) = true := by simp
    go_wp2_with fail
    refine (toItems_any _ A _ c l rfl (HRW.out _ HB5.out) (by omega)).mono ?_
    rintro e w6 ⟨A6, c6, rfl, ho6, hb6⟩
    have HB6 := Lib.hid (bnext HB5.out hb6)
    have HRY6 := Lib.hid (HRY5.out.below hb6 (Nat.le_refl _))
    have HRX6 := Lib.hid (Rd.of_own ho6)
    clear ho6 hb6 HB5 HRY5
    go_wp2_with fail
    refine (sameItems_eq _ A3 A6 _ _ c3 c6 l rfl rfl HRY6.out HRX6.out (by omega)).mono ?_
    rintro e w7 ⟨rfl, hb7⟩
    have HB7 := Lib.hid (bnext HB6.out hb7)
    clear hb7
    go_wp2
    go_ret
    exact ⟨rfl, HB7.out⟩
  · obtain ⟨W, hW⟩ : ∃ W, W = (w3.setCell ⟨w.heap.size + 1, 0, none⟩ (.int .i64 v1)).setCell ⟨w.heap.size + 1, 1, none⟩ (.int .i64 v2) := ⟨_, rfl⟩
    rw [← hW]
    have k1 : W.cell? ⟨(w.heap.size + 1), 0, none⟩ = some (.int .i64 v1) := by rw [hW]; rw [World.cell?_setCell_other _ _ _ _ (by simp)]; exact World.cell?_setCell_same _ _ _ kn1
    have k2 : W.cell? ⟨(w.heap.size + 1), 1, none⟩ = some (.int .i64 v2) := by rw [hW]; exact World.cell?_setCell_same _ _ _ ((World.cell?_setCell_other _ _ _ _ (by simp)).trans kn2)
    have hzW : (w.heap.size + 1) < W.heap.size := by rw [hW]; have h := hb3.size; simp [World.setCell] at h ⊢; omega
    have HBW : Hid (Below w.heap.size w W) := by rw [hW]; exact ((H00.out.drew.alloc H00.out.size (.cells #[.int .i64 0, .int .i64 0] 25)).trans (hb3.mono (by simp; omega))).setCell (by simp) _ |>.setCell (by simp) _
    have HRY : Hid (Rd W A3 (cls l)) := by rw [hW]; exact Rd.of_own (ownsRow_setCell_below (ownsRow_setCell_below ho3 (by simp) _) (by simp) _)
    clear hW ho3 hb3 ka1 ka2 hz3 kn1 kn2 kn3 kn4
    obtain ⟨bx, hbx⟩ : ∃ bx, bx = (w.heap.size + 1) := ⟨_, rfl⟩
    rw [← hbx] at k1 k2 hzW ⊢
    clear hbx
    go_wp2_with fail
    refine (heapFix_any _ A3 _ c3 l i (v1, v2) rfl HRY.out (by omega) hi).mono ?_
    rintro e w4 ⟨A4, c4, rfl, ho4, hb4⟩
    replace k1 := (hb4.cell (p := ⟨bx, 0, none⟩) hzW).trans k1
    replace k2 := (hb4.cell (p := ⟨bx, 1, none⟩) hzW).trans k2
    have HB4 := Lib.hid (bnext HBW.out hb4)
    have HRY4 := Lib.hid (HRY.out.below hb4 (Nat.le_refl _))
    clear ho4 hb4 HBW HRY
    go_wp2_with fail
    refine (heapFixCalls_any _ A3 _ c3 l i (v1, v2) rfl HRY4.out (by omega) hi).mono ?_
    rintro e w5 ⟨A5, c5, rfl, ho5, hb5⟩
    have HB5 := Lib.hid (bnext HB4.out hb5)
    have HRY5 := Lib.hid (HRY4.out.below hb5 (Nat.le_refl _))
    clear ho5 hb5 HB4 HRY4 k1 k2
    have hqq : ((l.length : Int) == (l.length : Int)) = true := by simp
    go_wp2_with fail
    refine (toItems_any _ A _ c l rfl (HRW.out _ HB5.out) (by omega)).mono ?_
    rintro e w6 ⟨A6, c6, rfl, ho6, hb6⟩
    have HB6 := Lib.hid (bnext HB5.out hb6)
    have HRY6 := Lib.hid (HRY5.out.below hb6 (Nat.le_refl _))
    have HRX6 := Lib.hid (Rd.of_own ho6)
    clear ho6 hb6 HB5 HRY5
    go_wp2_with fail
    refine (sameItems_eq _ A3 A6 _ _ c3 c6 l rfl rfl HRY6.out HRX6.out (by omega)).mono ?_
    rintro e w7 ⟨rfl, hb7⟩
    have HB7 := Lib.hid (bnext HB6.out hb7)
    clear hb7
    go_wp2
    go_ret
    exact ⟨rfl, HB7.out⟩

theorem walk (W : World) (A : Option Addr) (c : Nat) (l : List It) (i x1 x2 : Int) (hr : Rd W A (cls l)) (hn : l.length * 16 ≤ 140737488351232) :
    Calls Try.prog 11 #[.slice A l.length c, .int .i64 i, .agg #[.int .i64 x1, .int .i64 x2]] W (Gives W (.bool true)) := by
  by_cases hi : 0 ≤ i ∧ i < l.length
  · obtain ⟨k, rfl⟩ := Int.eq_ofNat_of_zero_le hi.1
    exact walk_in W A c l k x1 x2 hr hn (by omega)
  · exact walk_out W A _ c i x1 x2 hi

theorem contract (H : Type) (enc : TypeId × Value → H) (W : World) (base : Nat) (args : Array Value) (ds gs : List (DataW H)) (before : List MemPlace)
    (hval : ∀ (j : Nat) t v, Try.f11.params[j]? = some t → args[j]? = some v → Value.okWide Try.prog W .any base t v)
    (hW : DataW.Whole enc Try.prog Try.f11.params.toList Rows.fnFixKeepsSpec.vars false W args.toList ds gs before)
    (hsz : (DataW.weightsEach Try.prog (Try.f11.params.toList ++ Rows.fnFixKeepsSpec.plain.varTypes Try.prog) (ds ++ gs)).all (· ≤ reachBytes) = true) :
    Calls Try.prog 11 args W fun e W' => ∃ v, e = .returned v ∧ Rows.fnFixKeepsSpec.post enc Try.prog Try.f11 false true false false W args v W' := by
  have hW' := hW
  obtain ⟨p, q, hA0, hV, rfl, _, _⟩ := hW
  have hA : DataW.TrodAll enc Try.prog W 0 (fun _ => true) true Try.f11.params.toList args.toList ds p := hA0
  rw [Try.params11] at hA hval hsz
  obtain ⟨v0, v1, v2, d0, d1, d2, p0, p1, p2, rfl, rfl, rfl, h0, h1, h2⟩ := trodAll_three hA
  obtain ⟨rfl, rfl⟩ := trodVars_none hV
  obtain ⟨A0, c0, l0, rfl, hr0, hn0⟩ := open_items (hval 0 22 v0 rfl rfl) h0 (fun elems spare he => by
    have := sized_slice hsz (j := 0) (t := 22) (e := 24) rfl (by rw [he]; rfl) Try.underlying22
    rw [bytes_lawItem] at this
    exact this)
  obtain ⟨i1, rfl, rfl, rfl, wi1⟩ := open_int Try.underlying3 (hval 1 3 v1 rfl rfl) h1
  obtain ⟨⟨x2, y2⟩, rfl⟩ := open_item (hval 2 24 v2 rfl rfl) h2
  have hcall : Calls Try.prog 11 #[.slice A0 l0.length c0, .int .i64 i1, .agg #[.int .i64 x2, .int .i64 y2]] W (Gives W (.bool true)) := walk W A0 c0 l0 i1 x2 y2 hr0 hn0
  refine hcall.mono fun e W' ⟨he, hb⟩ => ⟨_, he, ?_⟩
  exact law_post hW' rfl rfl rfl rfl rfl (by rw [Try.params11]; exact of_decide_eq_true (by kernel_rfl)) hb

set_option maxRecDepth 100000 in
theorem lifted (os : Os) (started : os.Started) (H : Type) (enc : TypeId × Value → H) :
    ReturnsInHanded {} Try.checked os 11 .any (Rows.fnFixKeepsSpec.pre6 enc Try.prog Try.f11 Rows.fnFixKeepsRow.domain false) (Rows.fnFixKeepsSpec.post enc Try.prog Try.f11 false true false false) := by
  refine returnsInHanded_of_change_sized (C := Try.checked) own started (by kernel_rfl) Try.func11
    (ChangeSpec.witness6 (enc := enc) (C := Try.checked) false ⟨#[], #[.slice none 0 0, .int .i64 0, .agg #[.int .i64 0, .int .i64 0]], []⟩ 8 (by kernel_rfl) (by kernel_rfl) (by kernel_rfl) (by kernel_rfl)) ?_
  intro W base args ds gs before hval hW _ hsz _
  exact contract H enc W base args ds gs before hval hW hsz

theorem proved : Rows.FnFixKeepsSaid :=
  OpenClaim.holds_of_wide 11 Try.f11 rfl rfl rfl rfl rfl rfl rfl ⟨rfl, rfl, rfl, rfl, rfl⟩ rfl rfl rfl rfl rfl (by kernel_rfl) Try.func11 (by kernel_rfl)
    (of_decide_eq_true (by kernel_rfl)) (by unfold Func.isWrapper; first | (rw [if_pos (by decide +kernel)]; kernel_rfl) | (rw [if_neg (by decide +kernel)]; exact ⟨rfl, rfl⟩))
    (fun os started H enc _ => lifted os started H enc)
end Go.Proofs.Ytndhpmdkbcbhpaa.fnFixKeeps
