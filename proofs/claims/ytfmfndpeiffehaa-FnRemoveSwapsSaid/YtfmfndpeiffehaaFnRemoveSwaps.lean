/-
  FnRemoveSwaps returns true for every list of items and every index. Condition: the reach of a slice that every statement bears.
-/
import Derived.Test.YtfmfndpeiffehaaRemCalls
import Derived.Test.YtfmfndpeiffehaaReplay
import Derived.Test.YtfmfndpeiffehaaOpen
namespace Go.Proofs.Ytfmfndpeiffehaa.fnRemoveSwaps
open Go.ChangeShapes Go.WideShapes Go.ChangeAt Go.RowKit Go.Shelf Go.Deep Go.Joins
open Hp (g swp Ev)

theorem walk_out (w : World) (A : Option Addr) (n c : Nat) (i : Int) (h : ¬ (0 ≤ i ∧ i < n)) :
    Calls Try.prog 4 #[.slice A n c, .int .i64 i] w (Gives w (.bool true)) := by
  go_enter Try.func4, Try.ntmps4
  go_wp2_with (go_at_call 16; refine (qIndex_no _ A _ c _ h).mono ?_; rintro e w' ⟨rfl, rfl⟩)
  go_ret
  exact ⟨rfl, Below.refl _ _⟩

set_option maxHeartbeats 1000000 in
set_option maxRecDepth 100000 in
theorem walk_in (w : World) (A : Option Addr) (c : Nat) (l : List It) (i : Nat) (hr : Rd w A (cls l)) (hn : l.length * 16 ≤ 140737488351232) (hi : i < l.length) :
    Calls Try.prog 4 #[.slice A l.length c, .int .i64 (i : Int)] w (Gives w (.bool true)) := by
  have hrw : ∀ W, Below w.heap.size w W → Rd W A (cls l) := fun W hW => hr.below hW (Nat.le_refl _)
  have HRW := Lib.hid hrw
  have HB0 := Lib.hid (Below.refl w.heap.size w)
  clear hr hrw
  go_enter Try.func4, Try.ntmps4
  go_wp2_with fail
  refine (qIndex_yes _ A _ c _ (by omega) (by omega)).mono ?_
  rintro e w' ⟨rfl, rfl⟩
  go_wp2_with fail
  refine (toItems_any _ A _ c l rfl (HRW.out _ HB0.out) (by omega)).mono ?_
  rintro e w1 ⟨A1, c1, rfl, ho1, hb1⟩
  have HB1 := Lib.hid (bnext HB0.out hb1)
  have HRD1 := Lib.hid (Rd.of_own ho1)
  clear ho1 hb1
  go_wp2_with fail
  refine (heapRemoveCalls_any _ A1 _ c1 l i rfl HRD1.out (by omega) hi).mono ?_
  rintro e w2 ⟨A2, c2, rfl, ho2, hb2⟩
  have HB2 := Lib.hid (bnext HB1.out hb2)
  have HRC2 := Lib.hid (Rd.of_own ho2)
  clear ho2 hb2 HRD1 HB1
  obtain ⟨tr, htr⟩ : ∃ tr, tr = remTr l i := ⟨_, rfl⟩
  rw [← htr] at HRC2 ⊢
  have htl : tr.length ≤ 258 := by rw [htr]; exact remTr_length l i hi (by omega)
  obtain ⟨q, hq⟩ : ∃ q, q = Hp.kinds 2 tr := ⟨_, rfl⟩
  have hqr : q = Hp.kinds 2 (Hp.remCalls ltK l i) := by rw [hq, htr]; unfold remTr; rw [Hp.kinds_append, Hp.kinds_cons]; simp [Hp.kinds_nil]
  have hq1 : q ≤ Hp.bitsN l.length + 1 := by rw [hqr]; exact (Hp.rem_count ltK l i hi).2
  have hq3 : q ≤ 258 := by rw [hq]; exact Nat.le_trans List.countP_le_length htl
  have ht0 : 0 < tr.length := by rw [htr]; unfold remTr; rw [List.length_append]; simp
  have HQ := Lib.hid hq
  have hb62 := Hp.bits_le 62 l.length (by omega)
  obtain ⟨bb, hbb⟩ : ∃ bb, bb = Hp.bitsN l.length := ⟨_, rfl⟩
  rw [← hbb] at hq1 hb62
  have hd1 : decide (q ≤ bb + 1) = true := decide_eq_true hq1
  have hd2 : decide ((q : Int) ≤ (bb : Int) + 1) = true := decide_eq_true (by omega)
  have HBBE := Lib.hid hbb
  clear hbb hqr hq htr
  go_wp2_with fail
  refine (qCount_any _ A2 _ c2 tr 2 rfl HRC2.out (by omega)).mono ?_
  rw [← HQ.out]
  rintro e w3 ⟨rfl, hb3⟩
  have HB3 := Lib.hid (bnext HB2.out hb3)
  clear hb3 HB2 HRC2
  go_wp2_with fail
  refine (qBits_any _ l.length (by omega)).mono ?_
  rw [← HBBE.out]
  rintro e w6 ⟨rfl, rfl⟩
  go_wp2
  go_ret
  exact ⟨rfl, HB3.out⟩

theorem walk (W : World) (A : Option Addr) (c : Nat) (l : List It) (i : Int) (hr : Rd W A (cls l)) (hn : l.length * 16 ≤ 140737488351232) :
    Calls Try.prog 4 #[.slice A l.length c, .int .i64 i] W (Gives W (.bool true)) := by
  by_cases hi : 0 ≤ i ∧ i < l.length
  · obtain ⟨k, rfl⟩ := Int.eq_ofNat_of_zero_le hi.1
    exact walk_in W A c l k hr hn (by omega)
  · exact walk_out W A _ c i hi

theorem contract (H : Type) (enc : TypeId × Value → H) (W : World) (base : Nat) (args : Array Value) (ds gs : List (DataW H)) (before : List MemPlace)
    (hval : ∀ (j : Nat) t v, Try.f4.params[j]? = some t → args[j]? = some v → Value.okWide Try.prog W .any base t v)
    (hW : DataW.Whole enc Try.prog Try.f4.params.toList Rows.fnRemoveSwapsSpec.vars false W args.toList ds gs before)
    (hsz : (DataW.weightsEach Try.prog (Try.f4.params.toList ++ Rows.fnRemoveSwapsSpec.plain.varTypes Try.prog) (ds ++ gs)).all (· ≤ reachBytes) = true) :
    Calls Try.prog 4 args W fun e W' => ∃ v, e = .returned v ∧ Rows.fnRemoveSwapsSpec.post enc Try.prog Try.f4 false true false false W args v W' := by
  have hW' := hW
  obtain ⟨p, q, hA0, hV, rfl, _, _⟩ := hW
  have hA : DataW.TrodAll enc Try.prog W 0 (fun _ => true) true Try.f4.params.toList args.toList ds p := hA0
  rw [Try.params4] at hA hval hsz
  obtain ⟨v0, v1, d0, d1, p0, p1, rfl, rfl, rfl, h0, h1⟩ := trodAll_two hA
  obtain ⟨rfl, rfl⟩ := trodVars_none hV
  obtain ⟨A0, c0, l0, rfl, hr0, hn0⟩ := open_items (hval 0 22 v0 rfl rfl) h0 (fun elems spare he => by
    have := sized_slice hsz (j := 0) (t := 22) (e := 44) rfl (by rw [he]; rfl) Try.underlying22
    rw [bytes_lawItem] at this
    exact this)
  obtain ⟨i1, rfl, rfl, rfl, wi1⟩ := open_int Try.underlying3 (hval 1 3 v1 rfl rfl) h1
  have hcall : Calls Try.prog 4 #[.slice A0 l0.length c0, .int .i64 i1] W (Gives W (.bool true)) := walk W A0 c0 l0 i1 hr0 hn0
  refine hcall.mono fun e W' ⟨he, hb⟩ => ⟨_, he, ?_⟩
  exact law_post hW' rfl rfl rfl rfl rfl (by rw [Try.params4]; exact of_decide_eq_true (by kernel_rfl)) hb

set_option maxRecDepth 100000 in
theorem lifted (os : Os) (started : os.Started) (H : Type) (enc : TypeId × Value → H) :
    ReturnsInHanded {} Try.checked os 4 .any (Rows.fnRemoveSwapsSpec.pre6 enc Try.prog Try.f4 Rows.fnRemoveSwapsRow.domain false) (Rows.fnRemoveSwapsSpec.post enc Try.prog Try.f4 false true false false) := by
  refine returnsInHanded_of_change_sized (C := Try.checked) own started (by kernel_rfl) Try.func4
    (ChangeSpec.witness6 (enc := enc) (C := Try.checked) false ⟨#[], #[.slice none 0 0, .int .i64 0], []⟩ 8 (by kernel_rfl) (by kernel_rfl) (by kernel_rfl) (by kernel_rfl)) ?_
  intro W base args ds gs before hval hW _ hsz _
  exact contract H enc W base args ds gs before hval hW hsz

theorem proved : Rows.FnRemoveSwapsSaid :=
  OpenClaim.holds_of_wide 4 Try.f4 rfl rfl rfl rfl rfl rfl rfl ⟨rfl, rfl, rfl, rfl, rfl⟩ rfl rfl rfl rfl rfl (by kernel_rfl) Try.func4 (by kernel_rfl)
    (of_decide_eq_true (by kernel_rfl)) (by unfold Func.isWrapper; first | (rw [if_pos (by decide +kernel)]; kernel_rfl) | (rw [if_neg (by decide +kernel)]; exact ⟨rfl, rfl⟩))
    (fun os started H enc _ => lifted os started H enc)
end Go.Proofs.Ytfmfndpeiffehaa.fnRemoveSwaps
