/-
  FnFixSwaps returns true for every list of items, every index and every item. Condition: the reach of a slice that every statement bears.
-/
import Derived.Test.YtndhpmdkbcbhpaaImplFix
import Derived.Test.YtndhpmdkbcbhpaaReplay
import Derived.Test.YtndhpmdkbcbhpaaOpen
import Derived.Test.YtndhpmdkbcbhpaaPlainC
namespace Go.Proofs.Ytndhpmdkbcbhpaa.fnFixSwaps
open Go.ChangeShapes Go.WideShapes Go.ChangeAt Go.RowKit Go.Shelf Go.Deep Go.Joins
open Hp (g swp Ev)

theorem walk_out (w : World) (A : Option Addr) (n c : Nat) (i v1 v2 : Int) (h : ¬ (0 ≤ i ∧ i < n)) :
    Calls Try.prog 7 #[.slice A n c, .int .i64 i, .agg #[.int .i64 v1, .int .i64 v2]] w (Gives w (.bool true)) := by
  go_enter Try.func7, Try.ntmps7
  go_wp2_with (go_at_call 18; refine (qIndex_no _ A _ c _ h).mono ?_; rintro e w' ⟨rfl, rfl⟩)
  go_ret
  exact ⟨rfl, (Below.refl _ _).alloc (Nat.le_refl _) _⟩

set_option maxHeartbeats 1000000 in
set_option maxRecDepth 100000 in
theorem walk_no (w : World) (A : Option Addr) (c : Nat) (l : List It) (i : Nat) (v1 v2 : Int) (hr : Rd w A (cls l)) (hn : l.length * 16 ≤ 140737488351232) (hi : i < l.length) (hh : ¬ Hp.HO ltK l l.length) :
    Calls Try.prog 7 #[.slice A l.length c, .int .i64 (i : Int), .agg #[.int .i64 v1, .int .i64 v2]] w (Gives w (.bool true)) := by
  have hb0 := (Below.refl w.heap.size w).alloc (Nat.le_refl _) (.cells #[.int .i64 v1, .int .i64 v2] 24)
  have hr0 := hr.below hb0 (Nat.le_refl _)
  have HH := Lib.hid hh
  clear hh hr
  go_enter Try.func7, Try.ntmps7
  go_wp2_with (first
    | (go_at_call 18; refine (qIndex_yes _ A _ c _ (by omega) (by omega)).mono ?_; rintro e w' ⟨rfl, rfl⟩)
    | (go_at_call 15; refine (toItems_any _ A _ c l rfl hr0 (by omega)).mono ?_; rintro e w1 ⟨A1, c1, rfl, ho1, hb1⟩)
    | (go_at_call 19; refine (heapOrdered_any _ A1 _ c1 l false rfl (Rd.of_own ho1) (by omega) ⟨(fun h => by cases h), (fun h => absurd h HH.out)⟩).mono ?_; rintro e w2 ⟨rfl, hb2⟩))
  go_ret
  exact ⟨rfl, bnext (bnext hb0 hb1) hb2⟩

set_option maxHeartbeats 1000000 in
set_option maxRecDepth 100000 in
theorem walk_yes (w : World) (A : Option Addr) (c : Nat) (l : List It) (i : Nat) (v1 v2 : Int) (hr : Rd w A (cls l)) (hn : l.length * 16 ≤ 140737488351232) (hi : i < l.length) (hh : Hp.HO ltK l l.length) :
    Calls Try.prog 7 #[.slice A l.length c, .int .i64 (i : Int), .agg #[.int .i64 v1, .int .i64 v2]] w (Gives w (.bool true)) := by
  have hrw : ∀ W, Below w.heap.size w W → Rd W A (cls l) := fun W hW => hr.below hW (Nat.le_refl _)
  have HRW := Lib.hid hrw
  have HH := Lib.hid hh
  clear hh hr hrw
  have hb0 := (Below.refl w.heap.size w).alloc (Nat.le_refl _) (.cells #[.int .i64 v1, .int .i64 v2] 24)
  go_enter Try.func7, Try.ntmps7
  go_wp2_with fail
  refine (qIndex_yes _ A _ c _ (by omega) (by omega)).mono ?_
  rintro e w' ⟨rfl, rfl⟩
  go_wp2_with fail
  refine (toItems_any _ A _ c l rfl (HRW.out _ hb0) (by omega)).mono ?_
  rintro e w1 ⟨A1, c1, rfl, ho1, hb1⟩
  have HRD1 := Lib.hid (Rd.of_own ho1)
  have hz1 : w.heap.size < w1.heap.size := by have h := hb1.size; simp at h; omega
  have hx1 := (hb1.cell (p := ⟨w.heap.size, 0, none⟩) (by simp)).trans (show (w.alloc (.cells #[.int .i64 v1, .int .i64 v2] 24)).cell? ⟨w.heap.size, 0, none⟩ = some (.int .i64 v1) by simp)
  have hx2 := (hb1.cell (p := ⟨w.heap.size, 1, none⟩) (by simp)).trans (show (w.alloc (.cells #[.int .i64 v1, .int .i64 v2] 24)).cell? ⟨w.heap.size, 1, none⟩ = some (.int .i64 v2) by simp)
  have HB1 := Lib.hid (bnext hb0 hb1)
  clear hb1 ho1 hb0
  go_wp2_with fail
  refine (heapOrdered_any _ A1 _ c1 l true rfl HRD1.out (by omega) ⟨(fun _ => HH.out), (fun _ => rfl)⟩).mono ?_
  rintro e w2 ⟨rfl, hb2⟩
  replace hx1 := (hb2.cell (p := ⟨w.heap.size, 0, none⟩) hz1).trans hx1
  replace hx2 := (hb2.cell (p := ⟨w.heap.size, 1, none⟩) hz1).trans hx2
  have hz2 : w.heap.size < w2.heap.size := Nat.lt_of_lt_of_le hz1 hb2.size
  have HB2 := Lib.hid (bnext HB1.out hb2)
  clear hb2 HRD1 HB1 hz1
  go_wp2_with fail
  obtain ⟨W, hW⟩ : ∃ W, W = w2.alloc (.cells #[.int .i64 v1, .int .i64 v2] 25) := ⟨_, rfl⟩
  rw [← hW]
  have k1 : W.cell? ⟨w2.heap.size, 0, none⟩ = some (.int .i64 v1) := by rw [hW]; simp
  have k2 : W.cell? ⟨w2.heap.size, 1, none⟩ = some (.int .i64 v2) := by rw [hW]; simp
  have hzW : w2.heap.size < W.heap.size := by rw [hW]; simp
  have HBW : Hid (Below w.heap.size w W) := by rw [hW]; exact HB2.out.alloc HB2.out.size _
  clear hW hx1 hx2 HB2
  obtain ⟨bx, hbx⟩ : ∃ bx, bx = w2.heap.size := ⟨_, rfl⟩
  rw [← hbx] at k1 k2 hzW ⊢
  clear hbx
  go_region_held3 (fun w' => w'.cell? ⟨bx, 0, none⟩ = some (.int .i64 v1) ∧ w'.cell? ⟨bx, 1, none⟩ = some (.int .i64 v2))
    (first
      | exact ⟨kb1, kb2⟩
      | exact ⟨ka1, ka2⟩
      | exact ⟨k1, k2⟩
      | go_keep)
    (first
      | (go_at_call 15
         ((with_reducible refine (toItems_any _ A _ c l rfl ?_ ?_).mono ?_)
          · exact HRW.out _ HBW.out.drew
          · omega
          rintro e w3 ⟨A3, c3, rfl, ho3, hb3⟩
          have ka1 := (hb3.cell (p := ⟨bx, 0, none⟩) hzW).trans k1
          have ka2 := (hb3.cell (p := ⟨bx, 1, none⟩) hzW).trans k2
          have hz3 : bx < w3.heap.size := Nat.lt_of_lt_of_le hzW hb3.size))
      | (go_at_call 23
         ((with_reducible refine (heapFixCalls_any _ A3 _ c3 l i (v1, v2) rfl (Rd.of_own ho3) ?_ hi).mono ?_)
          · omega
          rintro e w4 ⟨A4, c4, rfl, ho4, hb4⟩
          have kb1 := (hb4.cell (p := ⟨bx, 0, none⟩) hz3).trans ka1
          have kb2 := (hb4.cell (p := ⟨bx, 1, none⟩) hz3).trans ka2
          have hz4 : bx < w4.heap.size := Nat.lt_of_lt_of_le hz3 hb4.size)))
  have HB4 := Lib.hid (bnext (bnext HBW.out.drew hb3) hb4)
  have HRC4 := Lib.hid (Rd.of_own ho4)
  clear hb3 hb4 ho3 ho4 k1 k2 ka1 ka2 hzW hz3 HBW
  obtain ⟨tr, htr⟩ : ∃ tr, tr = Hp.fixCalls ltK (l.set i (v1, v2)) i := ⟨_, rfl⟩
  rw [← htr] at HRC4 ⊢
  have htl : tr.length ≤ 256 := by rw [htr]; exact Hp.fix_length ltK _ i (by simpa using hi) (by simp; omega)
  have HREP : Hid (Hp.rep (l.set i (v1, v2), []) tr = some (Hp.fix ltK (l.set i (v1, v2)) i, [])) := by rw [htr]; exact Hp.rep_fix ltK [] _ i (by simpa using hi)
  have hcnt : Hp.kinds 2 tr ≤ Hp.bitsN l.length := by rw [htr]; have := (Hp.mend_count ltK (l.set i (v1, v2)) i (l.set i (v1, v2)).length (by simpa using hi)).2; rw [List.length_set] at this; unfold Hp.fixCalls; rw [List.length_set]; exact this
  have hk256 : Hp.kinds 2 tr ≤ 256 := Nat.le_trans List.countP_le_length htl
  clear htr
  have hk0 : (0 : Int) ≤ (i : Int) := Int.natCast_nonneg _
  go_wp2_with fail
  refine (toItems_any _ A _ c l rfl (HRW.out _ HB4.out) (by omega)).mono ?_
  rintro e w5 ⟨A5, c5, rfl, ho5, hb5⟩
  obtain ⟨gb, hA5⟩ : ∃ gb, A5 = some ⟨gb, 0, none⟩ := by
    rcases ho5.2 with ⟨_, h0⟩ | ⟨gb, cap, cur, hv, _⟩
    · omega
    · exact ⟨gb, by injection hv⟩
  subst hA5
  replace kb1 := (hb5.cell (p := ⟨bx, 0, none⟩) hz4).trans kb1
  replace kb2 := (hb5.cell (p := ⟨bx, 1, none⟩) hz4).trans kb2
  have ci := (ho5.cellAt (i * 2) (by omega)).trans (cls_at l i hi).1
  have ci' := (ho5.cellAt (i * 2 + 1) (by omega)).trans (cls_at l i hi).2
  have hf := fun k => ho5.frozenAt k
  have hlt := ho5.lt gb rfl
  have hgz : gb < w5.heap.size := hlt.2
  have hgw : bx < gb := Nat.lt_of_lt_of_le hz4 hlt.1
  have HY : Hid (Rd ((w5.setCell ⟨gb, i * 2, none⟩ (.int .i64 v1)).setCell ⟨gb, i * 2 + 1, none⟩ (.int .i64 v2)) (some ⟨gb, 0, none⟩) (cls (l.set i (v1, v2)))) := Rd.of_own (own_store ho5 rfl i hi (v1, v2))
  have HC5 : Hid (Rd ((w5.setCell ⟨gb, i * 2, none⟩ (.int .i64 v1)).setCell ⟨gb, i * 2 + 1, none⟩ (.int .i64 v2)) A4 (ces tr)) := HRC4.out.below ((hb5.setCell (p := ⟨gb, i * 2, none⟩) hlt.1 _).setCell (p := ⟨gb, i * 2 + 1, none⟩) hlt.1 _) (Nat.le_refl _)
  have HBY : Hid (Below w.heap.size w ((w5.setCell ⟨gb, i * 2, none⟩ (.int .i64 v1)).setCell ⟨gb, i * 2 + 1, none⟩ (.int .i64 v2))) :=
    ((bnext HB4.out hb5).setCell (p := ⟨gb, i * 2, none⟩) (Nat.le_trans HB4.out.size hlt.1) _).setCell (p := ⟨gb, i * 2 + 1, none⟩) (Nat.le_trans HB4.out.size hlt.1) _
  have HZ5 := Lib.hid (show w5.heap.size = ((w5.setCell ⟨gb, i * 2, none⟩ (.int .i64 v1)).setCell ⟨gb, i * 2 + 1, none⟩ (.int .i64 v2)).heap.size by simp [World.setCell])
  clear ho5 hb5 hlt HB4 HRC4
  go_wp2_with fail
  refine (qReplayed_any _ _ A4 _ _ _ _ (l.set i (v1, v2)) tr (Hp.fix ltK (l.set i (v1, v2)) i, []) (by simp) rfl HY.out HC5.out (by simp; omega) (by omega) HREP.out).mono ?_
  rintro e w6 ⟨A6, c6, B6, d6, rfl, ho6, _, hb6⟩
  have HRH6 := Lib.hid (Rd.of_own ho6)
  have HB6 := Lib.hid (bnext HBY.out hb6)
  have HC6 := Lib.hid (HC5.out.below hb6 (Nat.le_refl _))
  have HOF : Hid (Hp.HO ltK (Hp.fix ltK (l.set i (v1, v2)) i) (Hp.fix ltK (l.set i (v1, v2)) i).length) := by
    have h := Hp.fix_HO wo_ltK l i hi HH.out (v1, v2)
    unfold Hid
    rw [Hp.length_fix, List.length_set]
    exact h
  clear ho6 hb6 HBY HC5 HY kb1 kb2 ci ci' hf HREP
  obtain ⟨r, hr⟩ : ∃ r, r = Hp.fix ltK (l.set i (v1, v2)) i := ⟨_, rfl⟩
  have hrl : r.length = l.length := by rw [hr]; simp
  rw [← hr] at HRH6 HOF ⊢
  have HRL := Lib.hid hrl
  clear hr hrl
  obtain ⟨q, hq⟩ : ∃ q, q = Hp.kinds 2 tr := ⟨_, rfl⟩
  obtain ⟨bb, hbb⟩ : ∃ bb, bb = Hp.bitsN l.length := ⟨_, rfl⟩
  rw [← hq, ← hbb] at hcnt
  rw [← hq] at hk256
  have HQ := Lib.hid hq
  have HBBE := Lib.hid hbb
  have hd1 : decide (q ≤ bb) = true := decide_eq_true hcnt
  clear hq hbb
  go_wp2_with fail
  refine (heapOrdered_any _ A6 _ c6 r true (by rfl) HRH6.out (by rw [HRL.out]; omega) ⟨(fun _ => HOF.out), (fun _ => rfl)⟩).mono ?_
  rintro e w7 ⟨rfl, hb7⟩
  have HC7 := Lib.hid (HC6.out.below hb7 (Nat.le_refl _))
  have HB7 := Lib.hid (bnext HB6.out hb7)
  clear hb7 HC6 HB6
  go_wp2_with fail
  refine (qCount_any _ A4 _ c4 tr 2 rfl HC7.out (by omega)).mono ?_
  rw [← HQ.out]
  rintro e w8 ⟨rfl, hb8⟩
  have HB8 := Lib.hid (bnext HB7.out hb8)
  clear hb8 HC7 HB7
  go_wp2_with fail
  refine (qBits_any _ l.length (by omega)).mono ?_
  rw [← HBBE.out]
  rintro e w9 ⟨rfl, rfl⟩
  go_wp2
  go_ret
  exact ⟨rfl, HB8.out⟩

theorem walk (W : World) (A : Option Addr) (c : Nat) (l : List It) (i x1 x2 : Int) (hr : Rd W A (cls l)) (hn : l.length * 16 ≤ 140737488351232) :
    Calls Try.prog 7 #[.slice A l.length c, .int .i64 i, .agg #[.int .i64 x1, .int .i64 x2]] W (Gives W (.bool true)) := by
  by_cases hi : 0 ≤ i ∧ i < l.length
  · obtain ⟨k, rfl⟩ := Int.eq_ofNat_of_zero_le hi.1
    by_cases hh : Hp.HO ltK l l.length
    · exact walk_yes W A c l k x1 x2 hr hn (by omega) hh
    · exact walk_no W A c l k x1 x2 hr hn (by omega) hh
  · exact walk_out W A _ c i x1 x2 hi

theorem contract (H : Type) (enc : TypeId × Value → H) (W : World) (base : Nat) (args : Array Value) (ds gs : List (DataW H)) (before : List MemPlace)
    (hval : ∀ (j : Nat) t v, Try.f7.params[j]? = some t → args[j]? = some v → Value.okWide Try.prog W .any base t v)
    (hW : DataW.Whole enc Try.prog Try.f7.params.toList Rows.fnFixSwapsSpec.vars false W args.toList ds gs before)
    (hsz : (DataW.weightsEach Try.prog (Try.f7.params.toList ++ Rows.fnFixSwapsSpec.plain.varTypes Try.prog) (ds ++ gs)).all (· ≤ reachBytes) = true) :
    Calls Try.prog 7 args W fun e W' => ∃ v, e = .returned v ∧ Rows.fnFixSwapsSpec.post enc Try.prog Try.f7 false true false false W args v W' := by
  have hW' := hW
  obtain ⟨p, q, hA0, hV, rfl, _, _⟩ := hW
  have hA : DataW.TrodAll enc Try.prog W 0 (fun _ => true) true Try.f7.params.toList args.toList ds p := hA0
  rw [Try.params7] at hA hval hsz
  obtain ⟨v0, v1, v2, d0, d1, d2, p0, p1, p2, rfl, rfl, rfl, h0, h1, h2⟩ := trodAll_three hA
  obtain ⟨rfl, rfl⟩ := trodVars_none hV
  obtain ⟨A0, c0, l0, rfl, hr0, hn0⟩ := open_items (hval 0 22 v0 rfl rfl) h0 (fun elems spare he => by
    have := sized_slice hsz (j := 0) (t := 22) (e := 24) rfl (by rw [he]; rfl) Try.underlying22
    rw [bytes_lawItem] at this
    exact this)
  obtain ⟨i1, rfl, rfl, rfl, wi1⟩ := open_int Try.underlying3 (hval 1 3 v1 rfl rfl) h1
  obtain ⟨⟨x2, y2⟩, rfl⟩ := open_item (hval 2 24 v2 rfl rfl) h2
  have hcall : Calls Try.prog 7 #[.slice A0 l0.length c0, .int .i64 i1, .agg #[.int .i64 x2, .int .i64 y2]] W (Gives W (.bool true)) := walk W A0 c0 l0 i1 x2 y2 hr0 hn0
  refine hcall.mono fun e W' ⟨he, hb⟩ => ⟨_, he, ?_⟩
  exact law_post hW' rfl rfl rfl rfl rfl (by rw [Try.params7]; exact of_decide_eq_true (by kernel_rfl)) hb

set_option maxRecDepth 100000 in
theorem lifted (os : Os) (started : os.Started) (H : Type) (enc : TypeId × Value → H) :
    ReturnsInHanded {} Try.checked os 7 .any (Rows.fnFixSwapsSpec.pre6 enc Try.prog Try.f7 Rows.fnFixSwapsRow.domain false) (Rows.fnFixSwapsSpec.post enc Try.prog Try.f7 false true false false) := by
  refine returnsInHanded_of_change_sized (C := Try.checked) own started (by kernel_rfl) Try.func7
    (ChangeSpec.witness6 (enc := enc) (C := Try.checked) false ⟨#[], #[.slice none 0 0, .int .i64 0, .agg #[.int .i64 0, .int .i64 0]], []⟩ 8 (by kernel_rfl) (by kernel_rfl) (by kernel_rfl) (by kernel_rfl)) ?_
  intro W base args ds gs before hval hW _ hsz _
  exact contract H enc W base args ds gs before hval hW hsz

theorem proved : Rows.FnFixSwapsSaid :=
  OpenClaim.holds_of_wide 7 Try.f7 rfl rfl rfl rfl rfl rfl rfl ⟨rfl, rfl, rfl, rfl, rfl⟩ rfl rfl rfl rfl rfl (by kernel_rfl) Try.func7 (by kernel_rfl)
    (of_decide_eq_true (by kernel_rfl)) (by unfold Func.isWrapper; first | (rw [if_pos (by decide +kernel)]; kernel_rfl) | (rw [if_neg (by decide +kernel)]; exact ⟨rfl, rfl⟩))
    (fun os started H enc _ => lifted os started H enc)
end Go.Proofs.Ytndhpmdkbcbhpaa.fnFixSwaps
