/-
  FnRemovePops returns true for every list of items and every index. Condition: the reach of a slice that every statement bears.
-/
import Derived.Test.YtfmfndpeiffehaaPopIt
import Derived.Test.YtfmfndpeiffehaaImplRem
import Derived.Test.YtfmfndpeiffehaaWith
import Derived.Test.YtfmfndpeiffehaaOpen
import Derived.Test.YtfmfndpeiffehaaIndex
import Derived.Test.YtfmfndpeiffehaaPlainB
namespace Go.Proofs.Ytfmfndpeiffehaa.fnRemovePops
open Go.ChangeShapes Go.WideShapes Go.ChangeAt Go.RowKit Go.Shelf Go.Deep Go.Joins
open Hp (g swp Ev)

theorem walk_out (w : World) (A : Option Addr) (n c : Nat) (i : Int) (h : ¬ (0 ≤ i ∧ i < n)) :
    Calls Try.prog 9 #[.slice A n c, .int .i64 i] w (Gives w (.bool true)) := by
  go_enter Try.func9, Try.ntmps9
  go_wp2_with (go_at_call 16; refine (qIndex_no _ A _ c _ h).mono ?_; rintro e w' ⟨rfl, rfl⟩)
  go_ret
  exact ⟨rfl, Below.refl _ _⟩

set_option maxHeartbeats 1000000 in
set_option maxRecDepth 100000 in
theorem walk_no (w : World) (A : Option Addr) (c : Nat) (l : List It) (i : Nat) (hr : Rd w A (cls l)) (hn : l.length * 16 ≤ 140737488351232) (hi : i < l.length) (hh : ¬ Hp.HO ltK l l.length) :
    Calls Try.prog 9 #[.slice A l.length c, .int .i64 (i : Int)] w (Gives w (.bool true)) := by
  have hb0 := Below.refl w.heap.size w
  have hr0 := hr.below hb0 (Nat.le_refl _)
  have HH := Lib.hid hh
  clear hh hr
  go_enter Try.func9, Try.ntmps9
  go_wp2_with (first
    | (go_at_call 16; refine (qIndex_yes _ A _ c _ (by omega) (by omega)).mono ?_; rintro e w' ⟨rfl, rfl⟩)
    | (go_at_call 14; refine (toItems_any _ A _ c l rfl hr0 (by omega)).mono ?_; rintro e w1 ⟨A1, c1, rfl, ho1, hb1⟩)
    | (go_at_call 19; refine (heapOrdered_any _ A1 _ c1 l false rfl (Rd.of_own ho1) (by omega) ⟨(fun h => by cases h), (fun h => absurd h HH.out)⟩).mono ?_; rintro e w2 ⟨rfl, hb2⟩))
  go_ret
  exact ⟨rfl, bnext (bnext hb0 hb1) hb2⟩

set_option maxHeartbeats 1000000 in
set_option maxRecDepth 100000 in
theorem walk_yes (w : World) (A : Option Addr) (c : Nat) (l : List It) (i : Nat) (hr : Rd w A (cls l)) (hn : l.length * 16 ≤ 140737488351232) (hi : i < l.length) (hh : Hp.HO ltK l l.length) :
    Calls Try.prog 9 #[.slice A l.length c, .int .i64 (i : Int)] w (Gives w (.bool true)) := by
  have hrw : ∀ W, Below w.heap.size w W → Rd W A (cls l) := fun W hW => hr.below hW (Nat.le_refl _)
  have HRW := Lib.hid hrw
  have HH := Lib.hid hh
  clear hh hr hrw
  have hb0 := Below.refl w.heap.size w
  go_enter Try.func9, Try.ntmps9
  go_wp2_with fail
  refine (qIndex_yes _ A _ c _ (by omega) (by omega)).mono ?_
  rintro e w' ⟨rfl, rfl⟩
  go_wp2_with fail
  refine (toItems_any _ A _ c l rfl (HRW.out _ hb0) (by omega)).mono ?_
  rintro e w1 ⟨A1, c1, rfl, ho1, hb1⟩
  have HRD1 := Lib.hid (Rd.of_own ho1)
  have HB1 := Lib.hid (bnext hb0 hb1)
  clear hb1 ho1 hb0
  go_wp2_with fail
  refine (heapOrdered_any _ A1 _ c1 l true rfl HRD1.out (by omega) ⟨(fun _ => HH.out), (fun _ => rfl)⟩).mono ?_
  rintro e w2 ⟨rfl, hb2⟩
  have HB2 := Lib.hid (bnext HB1.out hb2)
  clear hb2 HRD1 HB1
  go_wp2_with fail
  refine (toItems_any _ A _ c l rfl (HRW.out _ HB2.out) (by omega)).mono ?_
  rintro e w3 ⟨A3, c3, rfl, ho3, hb3⟩
  have HRD3 := Lib.hid (Rd.of_own ho3)
  have HB3 := Lib.hid (bnext HB2.out hb3)
  clear ho3 hb3 HB2
  go_wp2_with fail
  refine (heapRemove_any _ A3 _ c3 l i rfl HRD3.out (by omega) hi).mono ?_
  obtain ⟨⟨x1, x2⟩, hx⟩ : ∃ x, g l i = x := ⟨_, rfl⟩
  obtain ⟨L, hL⟩ : ∃ L, L = (Hp.rem ltK l i).dropLast := ⟨_, rfl⟩
  have hLl : L.length ≤ l.length := by rw [hL]; simp
  have hLo : Hp.HO ltK L L.length := by rw [hL]; exact Hp.rem_HO_drop wo_ltK l i hi HH.out
  have hLp : (L ++ [(x1, x2)]).Perm l := by rw [hL, ← hx, Hp.rem_split ltK l i hi]; exact Hp.perm_rem ltK l i hi
  rw [← hL, hx]
  have HLO := Lib.hid hLo
  have HLP := Lib.hid hLp
  clear hx hL hLo hLp
  rintro e w4 ⟨A4, c4, rfl, ho4, hb4⟩
  have HRD4 := Lib.hid (Rd.of_own ho4)
  have HB4 := Lib.hid (bnext HB3.out hb4)
  clear ho4 hb4 HB3 HRD3
  go_wp2_with fail
  obtain ⟨V, hV⟩ : ∃ V, V = w4.alloc (.cells #[.int .i64 x1, .int .i64 x2] 35) := ⟨_, rfl⟩
  rw [← hV]
  have j1 : V.cell? ⟨w4.heap.size, 0, none⟩ = some (.int .i64 x1) := by rw [hV]; simp
  have j2 : V.cell? ⟨w4.heap.size, 1, none⟩ = some (.int .i64 x2) := by rw [hV]; simp
  have hzV : w4.heap.size < V.heap.size := by rw [hV]; simp
  have HBV : Hid (Below w.heap.size w V) := by rw [hV]; exact HB4.out.alloc HB4.out.size _
  have HRDV : Hid (Rd V A4 (cls L)) := by rw [hV]; exact HRD4.out.below ((Below.refl _ _).alloc (Nat.le_refl _) _) (Nat.le_refl _)
  clear hV HB4 HRD4
  obtain ⟨bx, hbx⟩ : ∃ bx, bx = w4.heap.size := ⟨_, rfl⟩
  rw [← hbx] at j1 j2 hzV ⊢
  clear hbx
  refine (heapPopItems_any V A4 _ c4 L rfl HRDV.out (by omega)).mono ?_
  rintro e w5 ⟨A5, c5, rfl, ho5, hb5⟩
  obtain ⟨R, hR⟩ : ∃ R, R = Hp.pops ltK L.length L := ⟨_, rfl⟩
  rw [← hR] at ho5 ⊢
  have hRl : R.length ≤ l.length := by rw [hR, Hp.length_pops]; exact hLl
  have HRS := Lib.hid (show R.Pairwise (fun a b => ltK b a = false) by rw [hR]; exact Hp.sorted_pops wo_ltK _ L rfl HLO.out)
  have HRP := Lib.hid (show (R ++ [(x1, x2)]).Perm l by rw [hR]; exact ((Hp.perm_pops ltK _ L rfl).append_right _).trans HLP.out)
  have HRD5 := Lib.hid (Rd.of_own ho5)
  have HB5 := Lib.hid (bnext HBV.out hb5)
  replace j1 := (hb5.cell (p := ⟨bx, 0, none⟩) hzV).trans j1
  replace j2 := (hb5.cell (p := ⟨bx, 1, none⟩) hzV).trans j2
  have hz5 : bx < w5.heap.size := Nat.lt_of_lt_of_le hzV hb5.size
  clear ho5 hb5 hR hzV HBV HRDV HLO HLP
  go_wp2_with fail
  refine (ascendingKeys_yes w5 A5 _ c5 R rfl HRD5.out (by omega) HRS.out).mono ?_
  rintro e w6 ⟨rfl, hb6⟩
  have HB6 := Lib.hid (bnext HB5.out hb6)
  have HRD6 := Lib.hid (HRD5.out.below hb6 (Nat.le_refl _))
  replace j1 := (hb6.cell (p := ⟨bx, 0, none⟩) hz5).trans j1
  replace j2 := (hb6.cell (p := ⟨bx, 1, none⟩) hz5).trans j2
  clear hb6 HB5 HRD5 hz5
  go_wp2_with fail
  refine (withItem_any w6 A5 _ c5 R (x1, x2) rfl HRD6.out (m16 (by omega))).mono ?_
  rintro e w7 ⟨A7, c7, rfl, ho7, hb7⟩
  obtain ⟨Q, hQ⟩ : ∃ Q, Q = R ++ [(x1, x2)] := ⟨_, rfl⟩
  rw [← hQ] at ho7 HRP ⊢
  have HRD7 := Lib.hid (Rd.of_own ho7)
  have HB7 := Lib.hid (bnext HB6.out hb7)
  clear ho7 hb7 hQ HB6 HRD6 j1 j2
  go_wp2_with fail
  refine (toItems_any _ A _ c l rfl (HRW.out _ HB7.out) (by omega)).mono ?_
  rintro e w8 ⟨A8, c8, rfl, ho8, hb8⟩
  have HRD8 := Lib.hid (Rd.of_own ho8)
  have HRQ8 := Lib.hid (HRD7.out.below hb8 (Nat.le_refl _))
  have HB8 := Lib.hid (bnext HB7.out hb8)
  clear ho8 hb8 HB7 HRD7
  go_wp2_with fail
  refine (sameElements_perm w8 A7 A8 _ _ c7 c8 Q l rfl rfl HRP.out HRQ8.out HRD8.out (by rw [HRP.out.length_eq]; omega)).mono ?_
  rintro e w9 ⟨rfl, hb9⟩
  have HB9 := Lib.hid (bnext HB8.out hb9)
  clear hb9
  go_wp2
  go_ret
  exact ⟨rfl, HB9.out⟩

theorem walk (W : World) (A : Option Addr) (c : Nat) (l : List It) (i : Int) (hr : Rd W A (cls l)) (hn : l.length * 16 ≤ 140737488351232) :
    Calls Try.prog 9 #[.slice A l.length c, .int .i64 i] W (Gives W (.bool true)) := by
  by_cases hi : 0 ≤ i ∧ i < l.length
  · obtain ⟨k, rfl⟩ := Int.eq_ofNat_of_zero_le hi.1
    by_cases hh : Hp.HO ltK l l.length
    · exact walk_yes W A c l k hr hn (by omega) hh
    · exact walk_no W A c l k hr hn (by omega) hh
  · exact walk_out W A _ c i hi

theorem contract (H : Type) (enc : TypeId × Value → H) (W : World) (base : Nat) (args : Array Value) (ds gs : List (DataW H)) (before : List MemPlace)
    (hval : ∀ (j : Nat) t v, Try.f9.params[j]? = some t → args[j]? = some v → Value.okWide Try.prog W .any base t v)
    (hW : DataW.Whole enc Try.prog Try.f9.params.toList Rows.fnRemovePopsSpec.vars false W args.toList ds gs before)
    (hsz : (DataW.weightsEach Try.prog (Try.f9.params.toList ++ Rows.fnRemovePopsSpec.plain.varTypes Try.prog) (ds ++ gs)).all (· ≤ reachBytes) = true) :
    Calls Try.prog 9 args W fun e W' => ∃ v, e = .returned v ∧ Rows.fnRemovePopsSpec.post enc Try.prog Try.f9 false true false false W args v W' := by
  have hW' := hW
  obtain ⟨p, q, hA0, hV, rfl, _, _⟩ := hW
  have hA : DataW.TrodAll enc Try.prog W 0 (fun _ => true) true Try.f9.params.toList args.toList ds p := hA0
  rw [Try.params9] at hA hval hsz
  obtain ⟨v0, v1, d0, d1, p0, p1, rfl, rfl, rfl, h0, h1⟩ := trodAll_two hA
  obtain ⟨rfl, rfl⟩ := trodVars_none hV
  obtain ⟨A0, c0, l0, rfl, hr0, hn0⟩ := open_items (hval 0 22 v0 rfl rfl) h0 (fun elems spare he => by
    have := sized_slice hsz (j := 0) (t := 22) (e := 44) rfl (by rw [he]; rfl) Try.underlying22
    rw [bytes_lawItem] at this
    exact this)
  obtain ⟨i1, rfl, rfl, rfl, wi1⟩ := open_int Try.underlying3 (hval 1 3 v1 rfl rfl) h1
  have hcall : Calls Try.prog 9 #[.slice A0 l0.length c0, .int .i64 i1] W (Gives W (.bool true)) := walk W A0 c0 l0 i1 hr0 hn0
  refine hcall.mono fun e W' ⟨he, hb⟩ => ⟨_, he, ?_⟩
  exact law_post hW' rfl rfl rfl rfl rfl (by rw [Try.params9]; exact of_decide_eq_true (by kernel_rfl)) hb

set_option maxRecDepth 100000 in
theorem lifted (os : Os) (started : os.Started) (H : Type) (enc : TypeId × Value → H) :
    ReturnsInHanded {} Try.checked os 9 .any (Rows.fnRemovePopsSpec.pre6 enc Try.prog Try.f9 Rows.fnRemovePopsRow.domain false) (Rows.fnRemovePopsSpec.post enc Try.prog Try.f9 false true false false) := by
  refine returnsInHanded_of_change_sized (C := Try.checked) own started (by kernel_rfl) Try.func9
    (ChangeSpec.witness6 (enc := enc) (C := Try.checked) false ⟨#[], #[.slice none 0 0, .int .i64 0], []⟩ 8 (by kernel_rfl) (by kernel_rfl) (by kernel_rfl) (by kernel_rfl)) ?_
  intro W base args ds gs before hval hW _ hsz _
  exact contract H enc W base args ds gs before hval hW hsz

theorem proved : Rows.FnRemovePopsSaid :=
  OpenClaim.holds_of_wide 9 Try.f9 rfl rfl rfl rfl rfl rfl rfl ⟨rfl, rfl, rfl, rfl, rfl⟩ rfl rfl rfl rfl rfl (by kernel_rfl) Try.func9 (by kernel_rfl)
    (of_decide_eq_true (by kernel_rfl)) (by unfold Func.isWrapper; first | (rw [if_pos (by decide +kernel)]; kernel_rfl) | (rw [if_neg (by decide +kernel)]; exact ⟨rfl, rfl⟩))
    (fun os started H enc _ => lifted os started H enc)
end Go.Proofs.Ytfmfndpeiffehaa.fnRemovePops
