/-
  FnRemoveEach returns true for every list of items. Condition: the reach of a slice that every statement bears.
-/
import Derived.Test.YtfmfndpeiffehaaImplRem
import Derived.Test.YtfmfndpeiffehaaImplInit
import Derived.Test.YtfmfndpeiffehaaWith
import Derived.Test.YtfmfndpeiffehaaOpen
import Derived.Test.YtfmfndpeiffehaaPlainB
namespace Go.Proofs.Ytfmfndpeiffehaa.fnRemoveEach
open Go.ChangeShapes Go.WideShapes Go.ChangeAt Go.RowKit Go.Shelf Go.Deep Go.Joins
open Hp (g swp Ev)

set_option maxHeartbeats 1000000 in
set_option maxRecDepth 100000 in
theorem walk (w : World) (A : Option Addr) (c : Nat) (l : List It) (hr : Rd w A (cls l)) (hn : l.length * 16 ≤ 140737488351232) :
    Calls Try.prog 8 #[.slice A l.length c] w (Gives w (.bool true)) := by
  go_enter Try.func8, Try.ntmps8
  go_wp2_with fail
  refine (toItems_any _ A _ c l rfl hr (by omega)).mono ?_
  rintro e w1 ⟨A1, c1, rfl, ho1, hb1⟩
  have HRD1 := Lib.hid (Rd.of_own ho1)
  have HB1 := Lib.hid hb1
  clear ho1 hb1 hr
  go_wp2_with fail
  refine (heapInit_any _ A1 _ c1 l rfl HRD1.out (by omega)).mono ?_
  obtain ⟨h, hh⟩ : ∃ h, h = Hp.init ltK l := ⟨_, rfl⟩
  have hhl : h.length = l.length := by rw [hh]; simp
  have hho : Hp.HO ltK h h.length := by rw [hhl, hh]; exact Hp.init_HO wo_ltK l
  rw [← hh]
  clear hh
  rintro e w2 ⟨A2, c2, rfl, ho2, hb2⟩
  have HHO := Lib.hid hho
  have HRD2 := Lib.hid (Rd.of_own ho2)
  have HB2 := Lib.hid (bnext HB1.out hb2)
  clear ho2 hb2 HRD1 HB1
  obtain ⟨n, hnn⟩ : ∃ n, n = h.length := ⟨_, rfl⟩
  rw [← hnn]
  have HN := Lib.hid hnn
  have hnl : n * 16 ≤ 140737488351232 := by rw [hnn, hhl]; exact hn
  have hqq : ((n : Int) == (l.length : Int)) = true := by rw [hnn, hhl]; simp
  clear hnn hho hhl
  go_wp2_with fail
  go_loopw [13] (fun s13 wr => ∃ (k : Nat), s13 = .int .i64 (k : Int) ∧ k ≤ n ∧ Below w2.heap.size w2 wr) (fun s13 _ => n - (intOf s13).toNat)
  case atStart => exact ⟨0, rfl, by omega, Below.refl _ _⟩
  case round =>
    obtain ⟨k, rfl, hk, hbw⟩ := hrel
    have HRDr := Lib.hid (HRD2.out.below hbw (Nat.le_refl _))
    have HBr := Lib.hid hbw
    clear hbw
    by_cases hlt : k < n
    · have hkh : k < h.length := by rw [← HN.out]; exact hlt
      obtain ⟨bh, oh, hA, hbh, ci1, ci2⟩ := HRDr.out.at_ k hkh
      subst hA
      obtain ⟨⟨y1, y2⟩, hy⟩ : ∃ y, g h k = y := ⟨_, rfl⟩
      rw [hy] at ci1 ci2
      have HY := Lib.hid hy
      clear hy
      go_wp2_with fail
      obtain ⟨W, hW⟩ : ∃ W, W = wr.alloc (.cells #[.int .i64 y1, .int .i64 y2] 35) := ⟨_, rfl⟩
      rw [← hW]
      have k1 : W.cell? ⟨wr.heap.size, 0, none⟩ = some (.int .i64 y1) := by rw [hW]; simp
      have k2 : W.cell? ⟨wr.heap.size, 1, none⟩ = some (.int .i64 y2) := by rw [hW]; simp
      have hzW : wr.heap.size < W.heap.size := by rw [hW]; simp
      have hbW : Below wr.heap.size wr W := by rw [hW]; exact (Below.refl _ _).alloc (Nat.le_refl _) _
      have HBW := Lib.hid (bnext HBr.out hbW)
      have HRDW := Lib.hid (HRDr.out.below hbW (Nat.le_refl _))
      clear hW hbW ci1 ci2 hbh
      obtain ⟨bx, hbx⟩ : ∃ bx, bx = wr.heap.size := ⟨_, rfl⟩
      rw [← hbx] at k1 k2 hzW ⊢
      clear hbx
      refine (heapRemove_any _ (some ⟨bh, oh, none⟩) _ c2 h k HN.out HRDW.out (by rw [← HN.out]; omega) hkh).mono ?_
      rw [HY.out]
      obtain ⟨r, hrr⟩ : ∃ r, r = (Hp.rem ltK h k).dropLast := ⟨_, rfl⟩
      obtain ⟨m, hm⟩ : ∃ m, m = r.length := ⟨_, rfl⟩
      have hml : m + 1 = n := by rw [hm, hrr, List.length_dropLast, Hp.length_rem, HN.out]; omega
      have hro : Hp.HO ltK r r.length := by rw [hrr]; exact Hp.rem_HO_drop wo_ltK h k hkh HHO.out
      have hrp : r.Perm (h.erase (y1, y2)) := by rw [hrr, ← HY.out]; exact Hp.perm_rem_erase ltK h k hkh
      rw [← hrr]
      have HRL := Lib.hid hm
      have HRO := Lib.hid hro
      have HRP := Lib.hid hrp
      rintro e w3 ⟨A3, c3, rfl, ho3, hb3⟩
      rw [← hm]
      have HRD3 := Lib.hid (Rd.of_own ho3)
      have HRH3 := Lib.hid (HRDW.out.below hb3 (Nat.le_refl _))
      have HB3 := Lib.hid (bnext HBW.out hb3)
      replace k1 := (hb3.cell (p := ⟨bx, 0, none⟩) hzW).trans k1
      replace k2 := (hb3.cell (p := ⟨bx, 1, none⟩) hzW).trans k2
      have hz3 : bx < w3.heap.size := Nat.lt_of_lt_of_le hzW hb3.size
      clear hm hrr hro hrp ho3 hb3 hzW HBW HRDW
      go_wp2_with fail
      obtain ⟨U, hU⟩ : ∃ U, U = w3.alloc (.cells #[.int .i64 y1, .int .i64 y2] 35) := ⟨_, rfl⟩
      rw [← hU]
      have hbU : Below w3.heap.size w3 U := by rw [hU]; exact (Below.refl _ _).alloc (Nat.le_refl _) _
      replace k1 := (hbU.cell (p := ⟨bx, 0, none⟩) hz3).trans k1
      replace k2 := (hbU.cell (p := ⟨bx, 1, none⟩) hz3).trans k2
      have hzU : bx < U.heap.size := Nat.lt_of_lt_of_le hz3 hbU.size
      have HB4 := Lib.hid (bnext HB3.out hbU)
      have HRD4 := Lib.hid (HRD3.out.below hbU (Nat.le_refl _))
      have HRH4 := Lib.hid (HRH3.out.below hbU (Nat.le_refl _))
      clear hU hbU HB3 HRD3 HRH3 hz3
      refine (heapOrdered_any _ A3 _ c3 r true HRL.out HRD4.out (by rw [← HRL.out]; omega) ⟨(fun _ => HRO.out), (fun _ => rfl)⟩).mono ?_
      rintro e w5 ⟨rfl, hb5⟩
      replace k1 := (hb5.cell (p := ⟨bx, 0, none⟩) hzU).trans k1
      replace k2 := (hb5.cell (p := ⟨bx, 1, none⟩) hzU).trans k2
      have HB5 := Lib.hid (bnext HB4.out hb5)
      have HRD5 := Lib.hid (HRD4.out.below hb5 (Nat.le_refl _))
      have HRH5 := Lib.hid (HRH4.out.below hb5 (Nat.le_refl _))
      clear hb5 HB4 HRD4 HRH4
      go_wp2_with fail
      refine (withoutItem_any _ _ _ c2 h (y1, y2) HN.out HRH5.out (by rw [← HN.out]; omega)).mono ?_
      rintro e w6 ⟨A6, c6, rfl, ho6, hb6⟩
      have HB6 := Lib.hid (bnext HB5.out hb6)
      have HRE6 := Lib.hid (Rd.of_own ho6)
      have HRD6 := Lib.hid (HRD5.out.below hb6 (Nat.le_refl _))
      clear hb6 ho6 HB5 HRD5 HRH5 k1 k2
      obtain ⟨q, hq⟩ : ∃ q, q = (h.erase (y1, y2)).length := ⟨_, rfl⟩
      rw [← hq]
      have HQ := Lib.hid hq
      clear hq
      go_wp2_with fail
      refine (sameElements_perm _ A3 A6 _ _ c3 c6 r (h.erase (y1, y2)) HRL.out HQ.out HRP.out HRD6.out HRE6.out (by rw [← HRL.out]; omega)).mono ?_
      rintro e w7 ⟨rfl, hb7⟩
      have HB7 := Lib.hid (bnext HB6.out hb7)
      clear hb7
      go_wp2
      go_roundw
      case rel => exact ⟨k + 1, by go_num, by omega, HB7.out⟩
      case measure => simp [intOf]; omega
    · go_wp2
      go_ret
      exact ⟨rfl, bnext HB2.out HBr.out⟩

theorem contract (H : Type) (enc : TypeId × Value → H) (W : World) (base : Nat) (args : Array Value) (ds gs : List (DataW H)) (before : List MemPlace)
    (hval : ∀ (j : Nat) t v, Try.f8.params[j]? = some t → args[j]? = some v → Value.okWide Try.prog W .any base t v)
    (hW : DataW.Whole enc Try.prog Try.f8.params.toList Rows.fnRemoveEachSpec.vars false W args.toList ds gs before)
    (hsz : (DataW.weightsEach Try.prog (Try.f8.params.toList ++ Rows.fnRemoveEachSpec.plain.varTypes Try.prog) (ds ++ gs)).all (· ≤ reachBytes) = true) :
    Calls Try.prog 8 args W fun e W' => ∃ v, e = .returned v ∧ Rows.fnRemoveEachSpec.post enc Try.prog Try.f8 false true false false W args v W' := by
  have hW' := hW
  obtain ⟨p, q, hA0, hV, rfl, _, _⟩ := hW
  have hA : DataW.TrodAll enc Try.prog W 0 (fun _ => true) true Try.f8.params.toList args.toList ds p := hA0
  rw [Try.params8] at hA hval hsz
  obtain ⟨v0, d0, rfl, rfl, h0⟩ := trodAll_one hA
  obtain ⟨rfl, rfl⟩ := trodVars_none hV
  obtain ⟨A0, c0, l0, rfl, hr0, hn0⟩ := open_items (hval 0 22 v0 rfl rfl) h0 (fun elems spare he => by
    have := sized_slice hsz (j := 0) (t := 22) (e := 44) rfl (by rw [he]; rfl) Try.underlying22
    rw [bytes_lawItem] at this
    exact this)
  have hcall : Calls Try.prog 8 #[.slice A0 l0.length c0] W (Gives W (.bool true)) := walk W A0 c0 l0 hr0 hn0
  refine hcall.mono fun e W' ⟨he, hb⟩ => ⟨_, he, ?_⟩
  exact law_post hW' rfl rfl rfl rfl rfl (by rw [Try.params8]; exact of_decide_eq_true (by kernel_rfl)) hb

set_option maxRecDepth 100000 in
theorem lifted (os : Os) (started : os.Started) (H : Type) (enc : TypeId × Value → H) :
    ReturnsInHanded {} Try.checked os 8 .any (Rows.fnRemoveEachSpec.pre6 enc Try.prog Try.f8 Rows.fnRemoveEachRow.domain false) (Rows.fnRemoveEachSpec.post enc Try.prog Try.f8 false true false false) := by
  refine returnsInHanded_of_change_sized (C := Try.checked) own started (by kernel_rfl) Try.func8
    (ChangeSpec.witness6 (enc := enc) (C := Try.checked) false ⟨#[], #[.slice none 0 0], []⟩ 8 (by kernel_rfl) (by kernel_rfl) (by kernel_rfl) (by kernel_rfl)) ?_
  intro W base args ds gs before hval hW _ hsz _
  exact contract H enc W base args ds gs before hval hW hsz

theorem proved : Rows.FnRemoveEachSaid :=
  OpenClaim.holds_of_wide 8 Try.f8 rfl rfl rfl rfl rfl rfl rfl ⟨rfl, rfl, rfl, rfl, rfl⟩ rfl rfl rfl rfl rfl (by kernel_rfl) Try.func8 (by kernel_rfl)
    (of_decide_eq_true (by kernel_rfl)) (by unfold Func.isWrapper; first | (rw [if_pos (by decide +kernel)]; kernel_rfl) | (rw [if_neg (by decide +kernel)]; exact ⟨rfl, rfl⟩))
    (fun os started H enc _ => lifted os started H enc)
end Go.Proofs.Ytfmfndpeiffehaa.fnRemoveEach
