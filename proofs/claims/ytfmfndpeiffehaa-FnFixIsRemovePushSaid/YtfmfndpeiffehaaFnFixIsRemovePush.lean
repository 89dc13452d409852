/-
  FnFixIsRemovePush returns true for every list of items, every index and every item. Condition: the reach of a slice that every statement bears.
-/
import Derived.Test.YtfmfndpeiffehaaPopIt
import Derived.Test.YtfmfndpeiffehaaImplRem
import Derived.Test.YtfmfndpeiffehaaImplFix
import Derived.Test.YtfmfndpeiffehaaImplPush
import Derived.Test.YtfmfndpeiffehaaKeys
import Derived.Test.YtfmfndpeiffehaaOpen
import Derived.Test.YtfmfndpeiffehaaIndex
import Derived.Test.YtfmfndpeiffehaaPlainB
import Derived.Test.YtfmfndpeiffehaaPlainP
namespace Go.Proofs.Ytfmfndpeiffehaa.fnFixIsRemovePush
open Go.ChangeShapes Go.WideShapes Go.ChangeAt Go.RowKit Go.Shelf Go.Deep Go.Joins
open Hp (g swp Ev)

theorem keys_pops {a b : List It} (ha : Hp.HO ltK a a.length) (hb : Hp.HO ltK b b.length) (hp : a.Perm b) : (Hp.pops ltK a.length a).map Prod.fst = (Hp.pops ltK b.length b).map Prod.fst := by
  apply Hp.sorted_unique
  · rw [List.pairwise_map]
    refine (Hp.sorted_pops wo_ltK _ a rfl ha).imp ?_
    intro x y h
    simpa [ltK] using h
  · rw [List.pairwise_map]
    refine (Hp.sorted_pops wo_ltK _ b rfl hb).imp ?_
    intro x y h
    simpa [ltK] using h
  · exact (((Hp.perm_pops ltK _ a rfl).trans hp).trans (Hp.perm_pops ltK _ b rfl).symm).map _
theorem set_perm (l : List It) (i : Nat) (hi : i < l.length) (x : It) : (l.set i x).Perm ((Hp.rem ltK l i).dropLast ++ [x]) := by
  exact (Hp.perm_set_erase hi x).trans ((Hp.perm_rem_erase ltK l i hi).symm.append_right _)

theorem walk_out (w : World) (A : Option Addr) (n c : Nat) (i v1 v2 : Int) (h : ¬ (0 ≤ i ∧ i < n)) :
    Calls Try.prog 11 #[.slice A n c, .int .i64 i, .agg #[.int .i64 v1, .int .i64 v2]] w (Gives w (.bool true)) := by
  go_enter Try.func11, Try.ntmps11
  go_wp2_with (go_at_call 16; refine (qIndex_no _ A _ c _ h).mono ?_; rintro e w' ⟨rfl, rfl⟩)
  go_ret
  exact ⟨rfl, (Below.refl _ _).alloc (Nat.le_refl _) _⟩

set_option maxHeartbeats 1000000 in
set_option maxRecDepth 100000 in
theorem walk_no (w : World) (A : Option Addr) (c : Nat) (l : List It) (i : Nat) (v1 v2 : Int) (hr : Rd w A (cls l)) (hn : l.length * 16 ≤ 140737488351232) (hi : i < l.length) (hh : ¬ Hp.HO ltK l l.length) :
    Calls Try.prog 11 #[.slice A l.length c, .int .i64 (i : Int), .agg #[.int .i64 v1, .int .i64 v2]] w (Gives w (.bool true)) := by
  have hb0 := (Below.refl w.heap.size w).alloc (Nat.le_refl _) (.cells #[.int .i64 v1, .int .i64 v2] 44)
  have hr0 := hr.below hb0 (Nat.le_refl _)
  have HH := Lib.hid hh
  clear hh hr
  go_enter Try.func11, Try.ntmps11
  go_wp2_with (first
    | (go_at_call 16; refine (qIndex_yes _ A _ c _ (by omega) (by omega)).mono ?_; rintro e w' ⟨rfl, rfl⟩)
    | (go_at_call 14; refine (toItems_any _ A _ c l rfl hr0 (by omega)).mono ?_; rintro e w1 ⟨A1, c1, rfl, ho1, hb1⟩)
    | (go_at_call 19; refine (heapOrdered_any _ A1 _ c1 l false rfl (Rd.of_own ho1) (by omega) ⟨(fun h => by cases h), (fun h => absurd h HH.out)⟩).mono ?_; rintro e w2 ⟨rfl, hb2⟩))
  go_ret
  exact ⟨rfl, bnext (bnext hb0 hb1) hb2⟩

set_option maxHeartbeats 1000000 in
set_option maxRecDepth 100000 in
theorem walk_yes (w : World) (A : Option Addr) (c : Nat) (l : List It) (i : Nat) (v1 v2 : Int) (hr : Rd w A (cls l)) (hn : l.length * 16 ≤ 140737488351232) (hi : i < l.length) (hh : Hp.HO ltK l l.length) :
    Calls Try.prog 11 #[.slice A l.length c, .int .i64 (i : Int), .agg #[.int .i64 v1, .int .i64 v2]] w (Gives w (.bool true)) := by
  have hrw : ∀ W, Below w.heap.size w W → Rd W A (cls l) := fun W hW => hr.below hW (Nat.le_refl _)
  have HRW := Lib.hid hrw
  have HH := Lib.hid hh
  clear hh hr hrw
  have hb0 := (Below.refl w.heap.size w).alloc (Nat.le_refl _) (.cells #[.int .i64 v1, .int .i64 v2] 44)
  go_enter Try.func11, Try.ntmps11
  go_wp2_with fail
  refine (qIndex_yes _ A _ c _ (by omega) (by omega)).mono ?_
  rintro e w' ⟨rfl, rfl⟩
  go_wp2_with fail
  refine (toItems_any _ A _ c l rfl (HRW.out _ hb0) (by omega)).mono ?_
  rintro e w1 ⟨A1, c1, rfl, ho1, hb1⟩
  have HRD1 := Lib.hid (Rd.of_own ho1)
  have hz1 : w.heap.size < w1.heap.size := by have h := hb1.size; simp at h; omega
  have hx1 := (hb1.cell (p := ⟨w.heap.size, 0, none⟩) (by simp)).trans (show (w.alloc (.cells #[.int .i64 v1, .int .i64 v2] 44)).cell? ⟨w.heap.size, 0, none⟩ = some (.int .i64 v1) by simp)
  have hx2 := (hb1.cell (p := ⟨w.heap.size, 1, none⟩) (by simp)).trans (show (w.alloc (.cells #[.int .i64 v1, .int .i64 v2] 44)).cell? ⟨w.heap.size, 1, none⟩ = some (.int .i64 v2) by simp)
  have HB1 := Lib.hid (bnext hb0 hb1)
  clear hb1 ho1 hb0
  go_wp2_with fail
  refine (heapOrdered_any _ A1 _ c1 l true rfl HRD1.out (by omega) ⟨(fun _ => HH.out), (fun _ => rfl)⟩).mono ?_
  rintro e w2 ⟨rfl, hb2⟩
  replace hx1 := (hb2.cell (p := ⟨w.heap.size, 0, none⟩) hz1).trans hx1
  replace hx2 := (hb2.cell (p := ⟨w.heap.size, 1, none⟩) hz1).trans hx2
  have hz2 : w.heap.size < w2.heap.size := Nat.lt_of_lt_of_le hz1 hb2.size
  have HB2 := Lib.hid (bnext HB1.out hb2)
  clear hb2 HRD1 HB1 hz1
  go_wp2_with fail
  obtain ⟨W, hW⟩ : ∃ W, W = w2.alloc (.cells #[.int .i64 v1, .int .i64 v2] 35) := ⟨_, rfl⟩
  rw [← hW]
  have k1 : W.cell? ⟨w2.heap.size, 0, none⟩ = some (.int .i64 v1) := by rw [hW]; simp
  have k2 : W.cell? ⟨w2.heap.size, 1, none⟩ = some (.int .i64 v2) := by rw [hW]; simp
  have hzW : w2.heap.size < W.heap.size := by rw [hW]; simp
  have HBW : Hid (Below w.heap.size w W) := by rw [hW]; exact HB2.out.alloc HB2.out.size _
  clear hW hx1 hx2 HB2
  obtain ⟨bx, hbx⟩ : ∃ bx, bx = w2.heap.size := ⟨_, rfl⟩
  rw [← hbx] at k1 k2 hzW ⊢
  clear hbx
  go_region_held3 (fun w' => w'.cell? ⟨bx, 0, none⟩ = some (.int .i64 v1) ∧ w'.cell? ⟨bx, 1, none⟩ = some (.int .i64 v2))
    (first
      | exact ⟨kb1, kb2⟩
      | exact ⟨ka1, ka2⟩
      | exact ⟨k1, k2⟩
      | go_keep)
    (first
      | (go_at_call 14
         ((with_reducible refine (toItems_any _ A _ c l rfl ?_ ?_).mono ?_)
          · exact HRW.out _ HBW.out.drew
          · omega
          rintro e w3 ⟨A3, c3, rfl, ho3, hb3⟩
          have ka1 := (hb3.cell (p := ⟨bx, 0, none⟩) hzW).trans k1
          have ka2 := (hb3.cell (p := ⟨bx, 1, none⟩) hzW).trans k2
          have hz3 : bx < w3.heap.size := Nat.lt_of_lt_of_le hzW hb3.size))
      | (go_at_call 31
         ((with_reducible refine (heapFix_any _ A3 _ c3 l i (v1, v2) rfl (Rd.of_own ho3) ?_ hi).mono ?_)
          · omega
          rintro e w4 ⟨A4, c4, rfl, ho4, hb4⟩
          have kb1 := (hb4.cell (p := ⟨bx, 0, none⟩) hz3).trans ka1
          have kb2 := (hb4.cell (p := ⟨bx, 1, none⟩) hz3).trans ka2
          have hz4 : bx < w4.heap.size := Nat.lt_of_lt_of_le hz3 hb4.size)))
  have HB4 := Lib.hid (bnext (bnext HBW.out.drew hb3) hb4)
  have HR4 := Lib.hid (Rd.of_own ho4)
  clear hb3 hb4 ho3 ho4 k1 k2 ka1 ka2 hzW hz3 HBW
  obtain ⟨a, ha⟩ : ∃ a, a = Hp.fix ltK (l.set i (v1, v2)) i := ⟨_, rfl⟩
  rw [← ha] at HR4
  have hal : a.length ≤ l.length := by rw [ha]; simp
  have hae : ((l.length : Int) == (l.length : Int)) = true := by simp
  have HAL := Lib.hid (show l.length = a.length by rw [ha]; simp)
  have HAO := Lib.hid (show Hp.HO ltK a a.length by rw [ha, Hp.length_fix, List.length_set]; exact Hp.fix_HO wo_ltK l i hi HH.out (v1, v2))
  have HAP := Lib.hid (show a.Perm ((Hp.rem ltK l i).dropLast ++ [(v1, v2)]) by rw [ha]; exact (Hp.perm_fix ltK _ i (by simpa using hi)).trans (set_perm l i hi _))
  clear ha
  go_wp2_with fail
  refine (toItems_any _ A _ c l rfl (HRW.out _ HB4.out) (by omega)).mono ?_
  rintro e w5 ⟨A5, c5, rfl, ho5, hb5⟩
  have HRD5 := Lib.hid (Rd.of_own ho5)
  have HB5 := Lib.hid (bnext HB4.out hb5)
  have HA5 := Lib.hid (HR4.out.below hb5 (Nat.le_refl _))
  have kc1 := (hb5.cell (p := ⟨bx, 0, none⟩) hz4).trans kb1
  have kc2 := (hb5.cell (p := ⟨bx, 1, none⟩) hz4).trans kb2
  have hz5 : bx < w5.heap.size := Nat.lt_of_lt_of_le hz4 hb5.size
  clear ho5 hb5 HB4 HR4 kb1 kb2 hz4
  go_wp2_with fail
  refine (heapRemove_any _ A5 _ c5 l i rfl HRD5.out (by omega) hi).mono ?_
  obtain ⟨⟨x1, x2⟩, hx⟩ : ∃ x, g l i = x := ⟨_, rfl⟩
  obtain ⟨L, hL⟩ : ∃ L, L = (Hp.rem ltK l i).dropLast := ⟨_, rfl⟩
  have hLl : L.length + 1 ≤ l.length := by rw [hL]; simp; omega
  have HLO := Lib.hid (show Hp.HO ltK L L.length by rw [hL]; exact Hp.rem_HO_drop wo_ltK l i hi HH.out)
  rw [← hL] at HAP ⊢
  rw [hx]
  clear hx hL
  rintro e w6 ⟨A6, c6, rfl, ho6, hb6⟩
  have HRD6 := Lib.hid (Rd.of_own ho6)
  have HB6 := Lib.hid (bnext HB5.out hb6)
  have HA6 := Lib.hid (HA5.out.below hb6 (Nat.le_refl _))
  replace kc1 := (hb6.cell (p := ⟨bx, 0, none⟩) hz5).trans kc1
  replace kc2 := (hb6.cell (p := ⟨bx, 1, none⟩) hz5).trans kc2
  have hz6 : bx < w6.heap.size := Nat.lt_of_lt_of_le hz5 hb6.size
  clear ho6 hb6 HB5 HA5 HRD5 hz5
  go_wp2_with fail
  obtain ⟨V, hV⟩ : ∃ V, V = w6.alloc (.cells #[.int .i64 x1, .int .i64 x2] 35) := ⟨_, rfl⟩
  rw [← hV]
  have hbV : Below w6.heap.size w6 V := by rw [hV]; exact (Below.refl _ _).alloc (Nat.le_refl _) _
  have HBV := Lib.hid (bnext HB6.out hbV)
  have HRDV := Lib.hid (HRD6.out.below hbV (Nat.le_refl _))
  have HAV := Lib.hid (HA6.out.below hbV (Nat.le_refl _))
  clear hV HB6 HRD6 HA6 hbV kc1 kc2 hz6
  refine (heapPush_any V A6 _ c6 L (v1, v2) rfl HRDV.out (m16 (by omega))).mono ?_
  rintro e w7 ⟨A7, c7, rfl, ho7, hb7⟩
  obtain ⟨b, hbb⟩ : ∃ b, b = Hp.push ltK L (v1, v2) := ⟨_, rfl⟩
  rw [← hbb] at ho7 ⊢
  have hbl : b.length ≤ l.length := by rw [hbb, Hp.length_push]; exact hLl
  have HBO := Lib.hid (show Hp.HO ltK b b.length by rw [hbb, Hp.length_push]; exact Hp.push_HO wo_ltK L (v1, v2) HLO.out)
  have HABP := Lib.hid (show a.Perm b by rw [hbb]; exact HAP.out.trans (Hp.perm_push ltK L (v1, v2)).symm)
  have HRD7 := Lib.hid (Rd.of_own ho7)
  have HA7 := Lib.hid (HAV.out.below hb7 (Nat.le_refl _))
  have HB7 := Lib.hid (bnext HBV.out hb7)
  have HKP := Lib.hid (keys_pops HAO.out HBO.out HABP.out)
  clear ho7 hb7 hbb HBV HAV HRDV HAP HLO
  go_wp2_with fail
  refine (heapOrdered_any w7 A4 _ c4 a true HAL.out HA7.out (by omega) ⟨(fun _ => HAO.out), (fun _ => rfl)⟩).mono ?_
  rintro e w8 ⟨rfl, hb8⟩
  have HB78 := Lib.hid hb8
  clear hb8
  go_wp2_with fail
  refine (heapOrdered_any w8 A7 _ c7 b true rfl (HRD7.out.below HB78.out (Nat.le_refl _)) (by omega) ⟨(fun _ => HBO.out), (fun _ => rfl)⟩).mono ?_
  rintro e w9 ⟨rfl, hb9⟩
  have HB79 := Lib.hid (bnext HB78.out hb9)
  clear hb9 HB78
  go_wp2_with fail
  refine (sameElements_perm w9 A4 A7 _ _ c4 c7 a b HAL.out rfl HABP.out (HA7.out.below HB79.out (Nat.le_refl _)) (HRD7.out.below HB79.out (Nat.le_refl _)) (by omega)).mono ?_
  rintro e w10 ⟨rfl, hb10⟩
  have HB7A := Lib.hid (bnext HB79.out hb10)
  clear hb10 HB79
  go_wp2_with fail
  refine (heapPopItems_any w10 A4 _ c4 a HAL.out (HA7.out.below HB7A.out (Nat.le_refl _)) (by omega)).mono ?_
  rintro e w11 ⟨A11, c11, rfl, ho11, hb11⟩
  obtain ⟨R, hR⟩ : ∃ R, R = Hp.pops ltK a.length a := ⟨_, rfl⟩
  rw [← hR] at ho11 HKP ⊢
  have hRl : R.length ≤ l.length := by rw [hR, Hp.length_pops]; exact hal
  have HRD11 := Lib.hid (Rd.of_own ho11)
  have HB7B := Lib.hid (bnext HB7A.out hb11)
  clear ho11 hb11 hR HB7A
  go_wp2_with fail
  refine (keysOf_any w11 A11 _ c11 R rfl HRD11.out (by omega)).mono ?_
  rintro e w12 ⟨A12, c12, rfl, ho12, hb12⟩
  obtain ⟨K, hK⟩ : ∃ K, K = R.map Prod.fst := ⟨_, rfl⟩
  rw [← hK] at ho12 HKP ⊢
  have hKl : K.length ≤ l.length := by rw [hK, List.length_map]; exact hRl
  have HRD12 := Lib.hid (Rd.of_own ho12)
  have HB7C := Lib.hid (bnext HB7B.out hb12)
  clear ho12 hb12 hK HB7B HRD11
  go_wp2_with fail
  refine (heapPopItems_any w12 A7 _ c7 b rfl (HRD7.out.below HB7C.out (Nat.le_refl _)) (by omega)).mono ?_
  rintro e w13 ⟨A13, c13, rfl, ho13, hb13⟩
  obtain ⟨R2, hR2⟩ : ∃ R2, R2 = Hp.pops ltK b.length b := ⟨_, rfl⟩
  rw [← hR2] at ho13 HKP ⊢
  have hR2l : R2.length ≤ l.length := by rw [hR2, Hp.length_pops]; exact hbl
  have HRD13 := Lib.hid (Rd.of_own ho13)
  have HRD12b := Lib.hid (HRD12.out.below hb13 (Nat.le_refl _))
  have HB7D := Lib.hid (bnext HB7C.out hb13)
  clear ho13 hb13 hR2 HB7C HRD12
  go_wp2_with fail
  refine (keysOf_any w13 A13 _ c13 R2 rfl HRD13.out (by omega)).mono ?_
  rintro e w14 ⟨A14, c14, rfl, ho14, hb14⟩
  rw [← HKP.out] at ho14 ⊢
  have HRD14 := Lib.hid (Rd.of_own ho14)
  have HRD12c := Lib.hid (HRD12b.out.below hb14 (Nat.le_refl _))
  have HB7E := Lib.hid (bnext HB7D.out hb14)
  clear ho14 hb14 HB7D HRD13 HRD12b
  go_wp2_with fail
  refine (sameInts_eq w14 A12 A14 _ _ c12 c14 K rfl rfl HRD12c.out HRD14.out (by omega)).mono ?_
  rintro e w15 ⟨rfl, hb15⟩
  have HBZ := Lib.hid (bnext (bnext HB7.out HB7E.out) hb15)
  clear hb15
  go_wp2
  go_ret
  exact ⟨rfl, HBZ.out⟩

theorem walk (W : World) (A : Option Addr) (c : Nat) (l : List It) (i x1 x2 : Int) (hr : Rd W A (cls l)) (hn : l.length * 16 ≤ 140737488351232) :
    Calls Try.prog 11 #[.slice A l.length c, .int .i64 i, .agg #[.int .i64 x1, .int .i64 x2]] W (Gives W (.bool true)) := by
  by_cases hi : 0 ≤ i ∧ i < l.length
  · obtain ⟨k, rfl⟩ := Int.eq_ofNat_of_zero_le hi.1
    by_cases hh : Hp.HO ltK l l.length
    · exact walk_yes W A c l k x1 x2 hr hn (by omega) hh
    · exact walk_no W A c l k x1 x2 hr hn (by omega) hh
  · exact walk_out W A _ c i x1 x2 hi

theorem contract (H : Type) (enc : TypeId × Value → H) (W : World) (base : Nat) (args : Array Value) (ds gs : List (DataW H)) (before : List MemPlace)
    (hval : ∀ (j : Nat) t v, Try.f11.params[j]? = some t → args[j]? = some v → Value.okWide Try.prog W .any base t v)
    (hW : DataW.Whole enc Try.prog Try.f11.params.toList Rows.fnFixIsRemovePushSpec.vars false W args.toList ds gs before)
    (hsz : (DataW.weightsEach Try.prog (Try.f11.params.toList ++ Rows.fnFixIsRemovePushSpec.plain.varTypes Try.prog) (ds ++ gs)).all (· ≤ reachBytes) = true) :
    Calls Try.prog 11 args W fun e W' => ∃ v, e = .returned v ∧ Rows.fnFixIsRemovePushSpec.post enc Try.prog Try.f11 false true false false W args v W' := by
  have hW' := hW
  obtain ⟨p, q, hA0, hV, rfl, _, _⟩ := hW
  have hA : DataW.TrodAll enc Try.prog W 0 (fun _ => true) true Try.f11.params.toList args.toList ds p := hA0
  rw [Try.params11] at hA hval hsz
  obtain ⟨v0, v1, v2, d0, d1, d2, p0, p1, p2, rfl, rfl, rfl, h0, h1, h2⟩ := trodAll_three hA
  obtain ⟨rfl, rfl⟩ := trodVars_none hV
  obtain ⟨A0, c0, l0, rfl, hr0, hn0⟩ := open_items (hval 0 22 v0 rfl rfl) h0 (fun elems spare he => by
    have := sized_slice hsz (j := 0) (t := 22) (e := 44) rfl (by rw [he]; rfl) Try.underlying22
    rw [bytes_lawItem] at this
    exact this)
  obtain ⟨i1, rfl, rfl, rfl, wi1⟩ := open_int Try.underlying3 (hval 1 3 v1 rfl rfl) h1
  obtain ⟨⟨x2, y2⟩, rfl⟩ := open_item (hval 2 44 v2 rfl rfl) h2
  have hcall : Calls Try.prog 11 #[.slice A0 l0.length c0, .int .i64 i1, .agg #[.int .i64 x2, .int .i64 y2]] W (Gives W (.bool true)) := walk W A0 c0 l0 i1 x2 y2 hr0 hn0
  refine hcall.mono fun e W' ⟨he, hb⟩ => ⟨_, he, ?_⟩
  exact law_post hW' rfl rfl rfl rfl rfl (by rw [Try.params11]; exact of_decide_eq_true (by kernel_rfl)) hb

set_option maxRecDepth 100000 in
theorem lifted (os : Os) (started : os.Started) (H : Type) (enc : TypeId × Value → H) :
    ReturnsInHanded {} Try.checked os 11 .any (Rows.fnFixIsRemovePushSpec.pre6 enc Try.prog Try.f11 Rows.fnFixIsRemovePushRow.domain false) (Rows.fnFixIsRemovePushSpec.post enc Try.prog Try.f11 false true false false) := by
  refine returnsInHanded_of_change_sized (C := Try.checked) own started (by kernel_rfl) Try.func11
    (ChangeSpec.witness6 (enc := enc) (C := Try.checked) false ⟨#[], #[.slice none 0 0, .int .i64 0, .agg #[.int .i64 0, .int .i64 0]], []⟩ 8 (by kernel_rfl) (by kernel_rfl) (by kernel_rfl) (by kernel_rfl)) ?_
  intro W base args ds gs before hval hW _ hsz _
  exact contract H enc W base args ds gs before hval hW hsz

theorem proved : Rows.FnFixIsRemovePushSaid :=
  OpenClaim.holds_of_wide 11 Try.f11 rfl rfl rfl rfl rfl rfl rfl ⟨rfl, rfl, rfl, rfl, rfl⟩ rfl rfl rfl rfl rfl (by kernel_rfl) Try.func11 (by kernel_rfl)
    (of_decide_eq_true (by kernel_rfl)) (by unfold Func.isWrapper; first | (rw [if_pos (by decide +kernel)]; kernel_rfl) | (rw [if_neg (by decide +kernel)]; exact ⟨rfl, rfl⟩))
    (fun os started H enc _ => lifted os started H enc)
end Go.Proofs.Ytfmfndpeiffehaa.fnFixIsRemovePush
