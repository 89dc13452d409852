/-
  FnFixAsks returns true for every list of items, every index and every item. Condition: the reach of a slice that every statement bears.
-/
import Derived.Test.YtndhpmdkbcbhpaaCalls
import Derived.Test.YtndhpmdkbcbhpaaOpen
namespace Go.Proofs.Ytndhpmdkbcbhpaa.fnFixAsks
open Go.ChangeShapes Go.WideShapes Go.ChangeAt Go.RowKit Go.Shelf Go.Deep Go.Joins
open Hp (g swp Ev)

theorem walk_out (w : World) (A : Option Addr) (n c : Nat) (i v1 v2 : Int) (h : ¬ (0 ≤ i ∧ i < n)) :
    Calls Try.prog 5 #[.slice A n c, .int .i64 i, .agg #[.int .i64 v1, .int .i64 v2]] w (Gives w (.bool true)) := by
  by_cases h0 : 0 ≤ i
  · have h1 : decide ((n : Int) ≤ i) = true := decide_eq_true (by omega)
    clear h
    go_enter Try.func5, Try.ntmps5
    go_wp2
    go_ret
    exact ⟨rfl, (Below.refl _ _).alloc (Nat.le_refl _) _⟩
  · have h1 : i < 0 := by omega
    clear h h0
    go_enter Try.func5, Try.ntmps5
    go_wp2
    go_ret
    exact ⟨rfl, (Below.refl _ _).alloc (Nat.le_refl _) _⟩

set_option maxHeartbeats 1000000 in
set_option maxRecDepth 100000 in
theorem walk_in (w : World) (A : Option Addr) (c : Nat) (l : List It) (i : Nat) (v1 v2 : Int) (hr : Rd w A (cls l)) (hn : l.length * 16 ≤ 140737488351232) (hi : i < l.length) :
    Calls Try.prog 5 #[.slice A l.length c, .int .i64 (i : Int), .agg #[.int .i64 v1, .int .i64 v2]] w (Gives w (.bool true)) := by
  have hrw : ∀ W, Below w.heap.size w W → Rd W A (cls l) := fun W hW => hr.below hW (Nat.le_refl _)
  have HRW := Lib.hid hrw
  clear hr hrw
  obtain ⟨W, hW⟩ : ∃ W, W = w.alloc (.cells #[.int .i64 v1, .int .i64 v2] 24) := ⟨_, rfl⟩
  have k1 : W.cell? ⟨w.heap.size, 0, none⟩ = some (.int .i64 v1) := by rw [hW]; simp
  have k2 : W.cell? ⟨w.heap.size, 1, none⟩ = some (.int .i64 v2) := by rw [hW]; simp
  have hzW : w.heap.size < W.heap.size := by rw [hW]; simp
  have HBW : Hid (Below w.heap.size w W) := by rw [hW]; exact (Below.refl _ _).alloc (Nat.le_refl _) _
  have hcnt := Hp.mend_count ltK (l.set i (v1, v2)) i (l.set i (v1, v2)).length (by simpa using hi)
  rw [List.length_set] at hcnt
  obtain ⟨q, hq⟩ : ∃ q, q = Hp.kinds 1 (Hp.fixCalls ltK (l.set i (v1, v2)) i) := ⟨_, rfl⟩
  have hq1 : q ≤ 3 * Hp.bitsN l.length := by rw [hq]; unfold Hp.fixCalls; rw [List.length_set]; exact hcnt.1
  have hq2 : 0 < q ∨ l.length < 2 := by
    rcases Nat.lt_or_ge l.length 2 with h | h
    · exact .inr h
    · left; rw [hq]; unfold Hp.fixCalls; rw [List.length_set]; exact Hp.mend_asks ltK _ i _ hi h
  have hq3 : q ≤ 256 := by rw [hq]; exact Nat.le_trans List.countP_le_length (Hp.fix_length ltK _ i (by simpa using hi) (by simp; omega))
  have HQ := Lib.hid hq
  have hb62 := Hp.bits_le 62 l.length (by omega)
  clear hcnt hq
  go_enter Try.func5, Try.ntmps5
  go_wp2_with fail
  rw [← hW]
  clear hW
  obtain ⟨bx, hbx⟩ : ∃ bx, bx = w.heap.size := ⟨_, rfl⟩
  rw [← hbx] at k1 k2 hzW ⊢
  clear hbx
  go_region_held3 (fun w' => w'.cell? ⟨bx, 0, none⟩ = some (.int .i64 v1) ∧ w'.cell? ⟨bx, 1, none⟩ = some (.int .i64 v2))
    (first
      | exact ⟨kc1, kc2⟩
      | exact ⟨kb1, kb2⟩
      | exact ⟨ka1, ka2⟩
      | exact ⟨k1, k2⟩
      | go_keep)
    (first
      | (go_at_call 15
         ((with_reducible refine (toItems_any _ A _ c l rfl ?_ ?_).mono ?_)
          · exact HRW.out _ HBW.out.drew
          · omega
          rintro e w3 ⟨A3, c3, rfl, ho3, hb3⟩
          have ka1 := (hb3.cell (p := ⟨bx, 0, none⟩) hzW).trans k1
          have ka2 := (hb3.cell (p := ⟨bx, 1, none⟩) hzW).trans k2
          have hz3 : bx < w3.heap.size := Nat.lt_of_lt_of_le hzW hb3.size))
      | (go_at_call 23
         ((with_reducible refine (heapFixCalls_any _ A3 _ c3 l i (v1, v2) rfl (Rd.of_own ho3) ?_ hi).mono ?_)
          · omega
          rintro e w4 ⟨A4, c4, rfl, ho4, hb4⟩
          have kb1 := (hb4.cell (p := ⟨bx, 0, none⟩) hz3).trans ka1
          have kb2 := (hb4.cell (p := ⟨bx, 1, none⟩) hz3).trans ka2
          have hz4 : bx < w4.heap.size := Nat.lt_of_lt_of_le hz3 hb4.size))
      | (go_at_call 22
         ((with_reducible refine (asked_any _ A4 _ c4 (Hp.fixCalls ltK (l.set i (v1, v2)) i) rfl (Rd.of_own ho4) ?_).mono ?_)
          · have := Hp.fix_length ltK (l.set i (v1, v2)) i (by simpa using hi) (by simp; omega); omega
          rw [← HQ.out]
          rintro e w5 ⟨rfl, hb5⟩
          have kc1 := (hb5.cell (p := ⟨bx, 0, none⟩) hz4).trans kb1
          have kc2 := (hb5.cell (p := ⟨bx, 1, none⟩) hz4).trans kb2)))
  have HB5 := Lib.hid (bnext (bnext (bnext HBW.out.drew hb3) hb4) hb5)
  clear hb3 hb4 hb5 ho3 ho4 k1 k2 ka1 ka2 kb1 kb2 kc1 kc2 hzW hz3 hz4 HBW
  obtain ⟨bb, hbb⟩ : ∃ bb, bb = Hp.bitsN l.length := ⟨_, rfl⟩
  rw [← hbb] at hq1 hb62
  have hd1 : decide (q ≤ 3 * bb) = true := decide_eq_true hq1
  have hd2 : decide ((q : Int) ≤ 3 * (bb : Int)) = true := decide_eq_true (by omega)
  have HBBE := Lib.hid hbb
  clear hbb
  rcases hq2 with hq2 | hq2
  · have hd3 : decide (0 < q) = true := decide_eq_true hq2
    go_wp2_with fail
    refine (bits_any _ l.length (by omega)).mono ?_
    rw [← HBBE.out]
    rintro e w6 ⟨rfl, rfl⟩
    go_wp2
    go_ret
    exact ⟨rfl, HB5.out⟩
  · by_cases hq4 : 0 < q
    · have hd3 : decide (0 < q) = true := decide_eq_true hq4
      go_wp2_with fail
      refine (bits_any _ l.length (by omega)).mono ?_
      rw [← HBBE.out]
      rintro e w6 ⟨rfl, rfl⟩
      go_wp2
      go_ret
      exact ⟨rfl, HB5.out⟩
    · have hd3 : decide (0 < q) = false := decide_eq_false hq4
      have hd4 : decide ((l.length : Int) < 2) = true := decide_eq_true (by omega)
      go_wp2_with fail
      refine (bits_any _ l.length (by omega)).mono ?_
      rw [← HBBE.out]
      rintro e w6 ⟨rfl, rfl⟩
      go_wp2
      go_ret
      exact ⟨rfl, HB5.out⟩

theorem walk (W : World) (A : Option Addr) (c : Nat) (l : List It) (i x1 x2 : Int) (hr : Rd W A (cls l)) (hn : l.length * 16 ≤ 140737488351232) :
    Calls Try.prog 5 #[.slice A l.length c, .int .i64 i, .agg #[.int .i64 x1, .int .i64 x2]] W (Gives W (.bool true)) := by
  by_cases hi : 0 ≤ i ∧ i < l.length
  · obtain ⟨k, rfl⟩ := Int.eq_ofNat_of_zero_le hi.1
    exact walk_in W A c l k x1 x2 hr hn (by omega)
  · exact walk_out W A _ c i x1 x2 hi

theorem contract (H : Type) (enc : TypeId × Value → H) (W : World) (base : Nat) (args : Array Value) (ds gs : List (DataW H)) (before : List MemPlace)
    (hval : ∀ (j : Nat) t v, Try.f5.params[j]? = some t → args[j]? = some v → Value.okWide Try.prog W .any base t v)
    (hW : DataW.Whole enc Try.prog Try.f5.params.toList Rows.fnFixAsksSpec.vars false W args.toList ds gs before)
    (hsz : (DataW.weightsEach Try.prog (Try.f5.params.toList ++ Rows.fnFixAsksSpec.plain.varTypes Try.prog) (ds ++ gs)).all (· ≤ reachBytes) = true) :
    Calls Try.prog 5 args W fun e W' => ∃ v, e = .returned v ∧ Rows.fnFixAsksSpec.post enc Try.prog Try.f5 false true false false W args v W' := by
  have hW' := hW
  obtain ⟨p, q, hA0, hV, rfl, _, _⟩ := hW
  have hA : DataW.TrodAll enc Try.prog W 0 (fun _ => true) true Try.f5.params.toList args.toList ds p := hA0
  rw [Try.params5] at hA hval hsz
  obtain ⟨v0, v1, v2, d0, d1, d2, p0, p1, p2, rfl, rfl, rfl, h0, h1, h2⟩ := trodAll_three hA
  obtain ⟨rfl, rfl⟩ := trodVars_none hV
  obtain ⟨A0, c0, l0, rfl, hr0, hn0⟩ := open_items (hval 0 22 v0 rfl rfl) h0 (fun elems spare he => by
    have := sized_slice hsz (j := 0) (t := 22) (e := 24) rfl (by rw [he]; rfl) Try.underlying22
    rw [bytes_lawItem] at this
    exact this)
  obtain ⟨i1, rfl, rfl, rfl, wi1⟩ := open_int Try.underlying3 (hval 1 3 v1 rfl rfl) h1
  obtain ⟨⟨x2, y2⟩, rfl⟩ := open_item (hval 2 24 v2 rfl rfl) h2
  have hcall : Calls Try.prog 5 #[.slice A0 l0.length c0, .int .i64 i1, .agg #[.int .i64 x2, .int .i64 y2]] W (Gives W (.bool true)) := walk W A0 c0 l0 i1 x2 y2 hr0 hn0
  refine hcall.mono fun e W' ⟨he, hb⟩ => ⟨_, he, ?_⟩
  exact law_post hW' rfl rfl rfl rfl rfl (by rw [Try.params5]; exact of_decide_eq_true (by kernel_rfl)) hb

set_option maxRecDepth 100000 in
theorem lifted (os : Os) (started : os.Started) (H : Type) (enc : TypeId × Value → H) :
    ReturnsInHanded {} Try.checked os 5 .any (Rows.fnFixAsksSpec.pre6 enc Try.prog Try.f5 Rows.fnFixAsksRow.domain false) (Rows.fnFixAsksSpec.post enc Try.prog Try.f5 false true false false) := by
  refine returnsInHanded_of_change_sized (C := Try.checked) own started (by kernel_rfl) Try.func5
    (ChangeSpec.witness6 (enc := enc) (C := Try.checked) false ⟨#[], #[.slice none 0 0, .int .i64 0, .agg #[.int .i64 0, .int .i64 0]], []⟩ 8 (by kernel_rfl) (by kernel_rfl) (by kernel_rfl) (by kernel_rfl)) ?_
  intro W base args ds gs before hval hW _ hsz _
  exact contract H enc W base args ds gs before hval hW hsz

theorem proved : Rows.FnFixAsksSaid :=
  OpenClaim.holds_of_wide 5 Try.f5 rfl rfl rfl rfl rfl rfl rfl ⟨rfl, rfl, rfl, rfl, rfl⟩ rfl rfl rfl rfl rfl (by kernel_rfl) Try.func5 (by kernel_rfl)
    (of_decide_eq_true (by kernel_rfl)) (by unfold Func.isWrapper; first | (rw [if_pos (by decide +kernel)]; kernel_rfl) | (rw [if_neg (by decide +kernel)]; exact ⟨rfl, rfl⟩))
    (fun os started H enc _ => lifted os started H enc)
end Go.Proofs.Ytndhpmdkbcbhpaa.fnFixAsks
