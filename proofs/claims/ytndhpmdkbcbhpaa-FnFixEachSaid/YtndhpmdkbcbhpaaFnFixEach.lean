/-
  FnFixEach returns true for every list of items and every item. Condition: the reach of a slice that every statement bears.
-/
import Derived.Test.YtndhpmdkbcbhpaaImplFix
import Derived.Test.YtndhpmdkbcbhpaaImplInit
import Derived.Test.YtndhpmdkbcbhpaaWith
import Derived.Test.YtndhpmdkbcbhpaaOpen
import Derived.Test.YtndhpmdkbcbhpaaPlainB
namespace Go.Proofs.Ytndhpmdkbcbhpaa.fnFixEach
open Go.ChangeShapes Go.WideShapes Go.ChangeAt Go.RowKit Go.Shelf Go.Deep Go.Joins
open Hp (g swp Ev)

set_option maxHeartbeats 1000000 in
set_option maxRecDepth 100000 in
theorem walk (w : World) (A : Option Addr) (c : Nat) (l : List It) (v1 v2 : Int) (hr : Rd w A (cls l)) (hn : l.length * 16 ≤ 140737488351232) :
    Calls Try.prog 12 #[.slice A l.length c, .agg #[.int .i64 v1, .int .i64 v2]] w (Gives w (.bool true)) := by
  have hb0 := (Below.refl w.heap.size w).alloc (Nat.le_refl _) (.cells #[.int .i64 v1, .int .i64 v2] 24)
  have hr0 := hr.below hb0 (Nat.le_refl _)
  clear hr
  go_enter Try.func12, Try.ntmps12
  go_wp2_with fail
  refine (toItems_any _ A _ c l rfl hr0 (by omega)).mono ?_
  rintro e w1 ⟨A1, c1, rfl, ho1, hb1⟩
  have HRD1 := Lib.hid (Rd.of_own ho1)
  have HB1 := Lib.hid (bnext hb0 hb1)
  have hz1 : w.heap.size < w1.heap.size := by have h := hb1.size; simp at h; omega
  have hx1 := (hb1.cell (p := ⟨w.heap.size, 0, none⟩) (by simp)).trans (show (w.alloc (.cells #[.int .i64 v1, .int .i64 v2] 24)).cell? ⟨w.heap.size, 0, none⟩ = some (.int .i64 v1) by simp)
  have hx2 := (hb1.cell (p := ⟨w.heap.size, 1, none⟩) (by simp)).trans (show (w.alloc (.cells #[.int .i64 v1, .int .i64 v2] 24)).cell? ⟨w.heap.size, 1, none⟩ = some (.int .i64 v2) by simp)
  clear ho1 hb1 hr0 hb0
  go_wp2_with fail
  refine (heapInit_any _ A1 _ c1 l rfl HRD1.out (by omega)).mono ?_
  obtain ⟨h, hh⟩ : ∃ h, h = Hp.init ltK l := ⟨_, rfl⟩
  have hhl : h.length = l.length := by rw [hh]; simp
  have hho : Hp.HO ltK h h.length := by rw [hhl, hh]; exact Hp.init_HO wo_ltK l
  rw [← hh]
  clear hh
  rintro e w2 ⟨A2, c2, rfl, ho2, hb2⟩
  have HHO := Lib.hid hho
  have HHL := Lib.hid hhl
  have HRD2 := Lib.hid (Rd.of_own ho2)
  have HB2 := Lib.hid (bnext HB1.out hb2)
  replace hx1 := (hb2.cell (p := ⟨w.heap.size, 0, none⟩) hz1).trans hx1
  replace hx2 := (hb2.cell (p := ⟨w.heap.size, 1, none⟩) hz1).trans hx2
  have hz2 : w.heap.size < w2.heap.size := Nat.lt_of_lt_of_le hz1 hb2.size
  clear ho2 hb2 HRD1 HB1 hz1
  obtain ⟨n, hnn⟩ : ∃ n, n = h.length := ⟨_, rfl⟩
  rw [← hnn]
  have HN := Lib.hid hnn
  have hnl : n * 16 ≤ 140737488351232 := by rw [hnn, hhl]; exact hn
  have hqq : ((n : Int) == (l.length : Int)) = true := by rw [hnn, hhl]; simp
  clear hnn hho hhl
  go_wp2_with fail
  obtain ⟨W, hW⟩ : ∃ W, W = w2.alloc (.cells #[.int .i64 v1, .int .i64 v2] 25) := ⟨_, rfl⟩
  rw [← hW]
  have k1 : W.cell? ⟨w2.heap.size, 0, none⟩ = some (.int .i64 v1) := by rw [hW]; simp
  have k2 : W.cell? ⟨w2.heap.size, 1, none⟩ = some (.int .i64 v2) := by rw [hW]; simp
  have hzW : w2.heap.size < W.heap.size := by rw [hW]; simp
  have HBW : Hid (Below w.heap.size w W) := by rw [hW]; exact HB2.out.alloc HB2.out.size _
  have HRDW : Hid (Rd W A2 (cls h)) := by rw [hW]; exact HRD2.out.below ((Below.refl _ _).alloc (Nat.le_refl _) _) (Nat.le_refl _)
  clear hW hx1 hx2 HB2 HRD2
  obtain ⟨bx, hbx⟩ : ∃ bx, bx = w2.heap.size := ⟨_, rfl⟩
  rw [← hbx] at k1 k2 hzW ⊢
  clear hbx
  go_loopw [19] (fun s19 wr => ∃ (k : Nat), s19 = .int .i64 (k : Int) ∧ k ≤ n ∧ Below W.heap.size W wr) (fun s19 _ => n - (intOf s19).toNat)
  case atStart => exact ⟨0, rfl, by omega, Below.refl _ _⟩
  case round =>
    obtain ⟨k, rfl, hk, hbw⟩ := hrel
    replace k1 := (hbw.cell (p := ⟨bx, 0, none⟩) hzW).trans k1
    replace k2 := (hbw.cell (p := ⟨bx, 1, none⟩) hzW).trans k2
    have hzr : bx < wr.heap.size := Nat.lt_of_lt_of_le hzW hbw.size
    have HRDr := Lib.hid (HRDW.out.below hbw (Nat.le_refl _))
    have HBr := Lib.hid hbw
    clear hbw
    by_cases hlt : k < n
    · have hkh : k < h.length := by rw [← HN.out]; exact hlt
      obtain ⟨bh, oh, hA, hbh, ci1, ci2⟩ := HRDr.out.at_ k hkh
      subst hA
      obtain ⟨⟨y1, y2⟩, hy⟩ : ∃ y, g h k = y := ⟨_, rfl⟩
      rw [hy] at ci1 ci2
      have HY := Lib.hid hy
      clear hy
      go_wp2_with fail
      refine (heapFix_any _ (some ⟨bh, oh, none⟩) _ c2 h k (v1, v2) HN.out HRDr.out (by rw [← HN.out]; omega) hkh).mono ?_
      obtain ⟨r, hrr⟩ : ∃ r, r = Hp.fix ltK (h.set k (v1, v2)) k := ⟨_, rfl⟩
      have hrl : r.length = n := by rw [hrr, Hp.length_fix, List.length_set]; exact HN.out.symm
      have hro : Hp.HO ltK r r.length := by rw [hrl, HN.out, hrr]; exact Hp.fix_HO wo_ltK h k hkh HHO.out (v1, v2)
      have hrp : r.Perm (h.erase (y1, y2) ++ [(v1, v2)]) := by rw [hrr, ← HY.out]; exact (Hp.perm_fix ltK _ k (by simpa using hkh)).trans (Hp.perm_set_erase hkh _)
      rw [← hrr]
      have HRL := Lib.hid hrl
      have HRO := Lib.hid hro
      have HRP := Lib.hid hrp
      clear hrr hro hrp hrl
      rintro e w3 ⟨A3, c3, rfl, ho3, hb3⟩
      rw [HRL.out]
      have HRD3 := Lib.hid (Rd.of_own ho3)
      have HRH3 := Lib.hid (HRDr.out.below hb3 (Nat.le_refl _))
      have HB3 := Lib.hid (HBr.out.trans (hb3.mono HBr.out.size))
      replace k1 := (hb3.cell (p := ⟨bx, 0, none⟩) hzr).trans k1
      replace k2 := (hb3.cell (p := ⟨bx, 1, none⟩) hzr).trans k2
      replace ci1 := (hb3.cell (p := ⟨bh, oh + k * 2, none⟩) hbh).trans ci1
      replace ci2 := (hb3.cell (p := ⟨bh, oh + k * 2 + 1, none⟩) hbh).trans ci2
      have hz3 : bx < w3.heap.size := Nat.lt_of_lt_of_le hzr hb3.size
      have hh3 : bh < w3.heap.size := Nat.lt_of_lt_of_le hbh hb3.size
      clear ho3 hb3
      have hk0 : (0 : Int) ≤ (k : Int) := Int.natCast_nonneg _
      have hk1 : (k : Int) < (n : Int) := by omega
      go_wp2_with fail
      go_region_held3 (fun w' => w'.cell? ⟨bx, 0, none⟩ = some (.int .i64 v1) ∧ w'.cell? ⟨bx, 1, none⟩ = some (.int .i64 v2) ∧ w'.cell? ⟨bh, oh + k * 2, none⟩ = some (.int .i64 y1) ∧ w'.cell? ⟨bh, oh + k * 2 + 1, none⟩ = some (.int .i64 y2))
        (first
          | exact ⟨kd1, kd2, kd3, kd4⟩
          | exact ⟨kc1, kc2, kc3, kc4⟩
          | exact ⟨kb1, kb2, kb3, kb4⟩
          | exact ⟨ka1, ka2, ka3, ka4⟩
          | exact ⟨k1, k2, ci1, ci2⟩
          | go_keep)
        (first
          | (go_at_call 19
             ((with_reducible refine (heapOrdered_any _ A3 _ c3 r true ?_ ?_ ?_ ?_).mono ?_)
              · exact HRL.out.symm
              · exact HRD3.out
              · rw [HRL.out]; omega
              · exact ⟨(fun _ => HRO.out), (fun _ => rfl)⟩
              rintro e w6 ⟨rfl, hb6⟩
              have ka1 := (hb6.cell (p := ⟨bx, 0, none⟩) hz3).trans k1
              have ka2 := (hb6.cell (p := ⟨bx, 1, none⟩) hz3).trans k2
              have ka3 := (hb6.cell (p := ⟨bh, oh + k * 2, none⟩) hh3).trans ci1
              have ka4 := (hb6.cell (p := ⟨bh, oh + k * 2 + 1, none⟩) hh3).trans ci2
              have hz6 : bx < w6.heap.size := Nat.lt_of_lt_of_le hz3 hb6.size
              have hy6 : bh < w6.heap.size := Nat.lt_of_lt_of_le hh3 hb6.size
              have HB6 := Lib.hid (HB3.out.drew.trans (hb6.mono HB3.out.size))
              have HRD6 := Lib.hid ((show Rd w3.drew _ _ from HRD3.out).below hb6 (Nat.le_refl _))
              have HRH6 := Lib.hid ((show Rd w3.drew _ _ from HRH3.out).below hb6 (Nat.le_refl _))))
          | (go_at_call 21
             ((with_reducible refine (withoutItem_any _ _ _ c2 h (y1, y2) HN.out HRH6.out ?_).mono ?_)
              · rw [← HN.out]; omega
              rintro e w7 ⟨A7, c7, rfl, ho7, hb7⟩
              have kb1 := (hb7.cell (p := ⟨bx, 0, none⟩) hz6).trans ka1
              have kb2 := (hb7.cell (p := ⟨bx, 1, none⟩) hz6).trans ka2
              have kb3 := (hb7.cell (p := ⟨bh, oh + k * 2, none⟩) hy6).trans ka3
              have kb4 := (hb7.cell (p := ⟨bh, oh + k * 2 + 1, none⟩) hy6).trans ka4
              have hz7 : bx < w7.heap.size := Nat.lt_of_lt_of_le hz6 hb7.size
              have hy7 : bh < w7.heap.size := Nat.lt_of_lt_of_le hy6 hb7.size
              have HB7 := Lib.hid (HB6.out.trans (hb7.mono HB6.out.size))
              have HRD7 := Lib.hid (HRD6.out.below hb7 (Nat.le_refl _))))
          | (go_at_call 20
             ((with_reducible refine (withItem_any _ A7 _ c7 (h.erase (y1, y2)) (v1, v2) ?_ (Rd.of_own ho7) ?_).mono ?_)
              · first | rfl | simp
              · have := List.length_erase_le (a := (y1, y2)) (l := h); have := HN.out; omega
              rintro e w8 ⟨A8, c8, rfl, ho8, hb8⟩
              have kc1 := (hb8.cell (p := ⟨bx, 0, none⟩) hz7).trans kb1
              have kc2 := (hb8.cell (p := ⟨bx, 1, none⟩) hz7).trans kb2
              have kc3 := (hb8.cell (p := ⟨bh, oh + k * 2, none⟩) hy7).trans kb3
              have kc4 := (hb8.cell (p := ⟨bh, oh + k * 2 + 1, none⟩) hy7).trans kb4
              have hz8 : bx < w8.heap.size := Nat.lt_of_lt_of_le hz7 hb8.size
              have hy8 : bh < w8.heap.size := Nat.lt_of_lt_of_le hy7 hb8.size
              have HB8 := Lib.hid (HB7.out.trans (hb8.mono HB7.out.size))
              have HRD8 := Lib.hid (HRD7.out.below hb8 (Nat.le_refl _))))
          | (go_at_call 16
             ((with_reducible refine (sameElements_perm _ A3 A8 _ _ c3 c8 r (h.erase (y1, y2) ++ [(v1, v2)]) ?_ ?_ ?_ ?_ ?_ ?_).mono ?_)
              · exact HRL.out.symm
              · first | rfl | simp
              · exact HRP.out
              · exact HRD8.out
              · exact Rd.of_own ho8
              · rw [HRL.out]; omega
              rintro e w9 ⟨rfl, hb9⟩
              have kd1 := (hb9.cell (p := ⟨bx, 0, none⟩) hz8).trans kc1
              have kd2 := (hb9.cell (p := ⟨bx, 1, none⟩) hz8).trans kc2
              have kd3 := (hb9.cell (p := ⟨bh, oh + k * 2, none⟩) hy8).trans kc3
              have kd4 := (hb9.cell (p := ⟨bh, oh + k * 2 + 1, none⟩) hy8).trans kc4
              have HB9 := Lib.hid (HB8.out.trans (hb9.mono HB8.out.size)))))
      clear hb6 hb7 hb8 hb9 ho7 ho8 k1 k2 ci1 ci2 ka1 ka2 ka3 ka4 kb1 kb2 kb3 kb4 kc1 kc2 kc3 kc4 kd1 kd2 kd3 kd4
      go_wp2
      go_roundw
      case rel => exact ⟨k + 1, by go_num, by omega, HB9.out⟩
      case measure => simp [intOf]; omega
    · go_wp2
      go_ret
      exact ⟨rfl, bnext HBW.out HBr.out⟩

theorem contract (H : Type) (enc : TypeId × Value → H) (W : World) (base : Nat) (args : Array Value) (ds gs : List (DataW H)) (before : List MemPlace)
    (hval : ∀ (j : Nat) t v, Try.f12.params[j]? = some t → args[j]? = some v → Value.okWide Try.prog W .any base t v)
    (hW : DataW.Whole enc Try.prog Try.f12.params.toList Rows.fnFixEachSpec.vars false W args.toList ds gs before)
    (hsz : (DataW.weightsEach Try.prog (Try.f12.params.toList ++ Rows.fnFixEachSpec.plain.varTypes Try.prog) (ds ++ gs)).all (· ≤ reachBytes) = true) :
    Calls Try.prog 12 args W fun e W' => ∃ v, e = .returned v ∧ Rows.fnFixEachSpec.post enc Try.prog Try.f12 false true false false W args v W' := by
  have hW' := hW
  obtain ⟨p, q, hA0, hV, rfl, _, _⟩ := hW
  have hA : DataW.TrodAll enc Try.prog W 0 (fun _ => true) true Try.f12.params.toList args.toList ds p := hA0
  rw [Try.params12] at hA hval hsz
  obtain ⟨v0, v1, d0, d1, p0, p1, rfl, rfl, rfl, h0, h1⟩ := trodAll_two hA
  obtain ⟨rfl, rfl⟩ := trodVars_none hV
  obtain ⟨A0, c0, l0, rfl, hr0, hn0⟩ := open_items (hval 0 22 v0 rfl rfl) h0 (fun elems spare he => by
    have := sized_slice hsz (j := 0) (t := 22) (e := 24) rfl (by rw [he]; rfl) Try.underlying22
    rw [bytes_lawItem] at this
    exact this)
  obtain ⟨⟨x1, y1⟩, rfl⟩ := open_item (hval 1 24 v1 rfl rfl) h1
  have hcall : Calls Try.prog 12 #[.slice A0 l0.length c0, .agg #[.int .i64 x1, .int .i64 y1]] W (Gives W (.bool true)) := walk W A0 c0 l0 x1 y1 hr0 hn0
  refine hcall.mono fun e W' ⟨he, hb⟩ => ⟨_, he, ?_⟩
  exact law_post hW' rfl rfl rfl rfl rfl (by rw [Try.params12]; exact of_decide_eq_true (by kernel_rfl)) hb

set_option maxRecDepth 100000 in
theorem lifted (os : Os) (started : os.Started) (H : Type) (enc : TypeId × Value → H) :
    ReturnsInHanded {} Try.checked os 12 .any (Rows.fnFixEachSpec.pre6 enc Try.prog Try.f12 Rows.fnFixEachRow.domain false) (Rows.fnFixEachSpec.post enc Try.prog Try.f12 false true false false) := by
  refine returnsInHanded_of_change_sized (C := Try.checked) own started (by kernel_rfl) Try.func12
    (ChangeSpec.witness6 (enc := enc) (C := Try.checked) false ⟨#[], #[.slice none 0 0, .agg #[.int .i64 0, .int .i64 0]], []⟩ 8 (by kernel_rfl) (by kernel_rfl) (by kernel_rfl) (by kernel_rfl)) ?_
  intro W base args ds gs before hval hW _ hsz _
  exact contract H enc W base args ds gs before hval hW hsz

theorem proved : Rows.FnFixEachSaid :=
  OpenClaim.holds_of_wide 12 Try.f12 rfl rfl rfl rfl rfl rfl rfl ⟨rfl, rfl, rfl, rfl, rfl⟩ rfl rfl rfl rfl rfl (by kernel_rfl) Try.func12 (by kernel_rfl)
    (of_decide_eq_true (by kernel_rfl)) (by unfold Func.isWrapper; first | (rw [if_pos (by decide +kernel)]; kernel_rfl) | (rw [if_neg (by decide +kernel)]; exact ⟨rfl, rfl⟩))
    (fun os started H enc _ => lifted os started H enc)
end Go.Proofs.Ytndhpmdkbcbhpaa.fnFixEach
