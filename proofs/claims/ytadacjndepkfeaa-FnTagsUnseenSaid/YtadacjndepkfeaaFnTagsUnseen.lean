/-
  FnTagsUnseen returns true for every list of items and every script. Condition: the reach of a slice that every statement bears.
-/
import Derived.Test.YtadacjndepkfeaaMapped
import Derived.Test.YtadacjndepkfeaaKeys
import Derived.Test.YtadacjndepkfeaaOpenS
namespace Go.Proofs.Ytadacjndepkfeaa.fnTagsUnseen
open Go.ChangeShapes Go.WideShapes Go.ChangeAt Go.RowKit Go.Shelf Go.Deep Go.Joins
open Hp (g swp Ev St plc)

def f0 (x : It) : It := (x.1, 0)
def F0 (s : St) : St := (s.1, s.2.1, s.2.2.1, 0)
theorem tags_fin {l : List It} {ss : List St} {S S2 : List (List It)} {O O2 : List It} (h : RunF (Hp.init ltK l) ss S O) (h2 : RunF (Hp.init ltK (l.map f0)) (ss.map F0) S2 O2) : S2 = S.map (List.map f0) := by
  have hf : ∀ a b : It, True → True → ltK (f0 a) (f0 b) = ltK a b := fun a b _ _ => rfl
  rw [h2.eqS, h.eqS, Hp.init_map hf l (fun _ _ => trivial)]
  exact Hp.sts_map hf mkI mkI F0 ss _ (fun _ _ => trivial) (fun s _ => ⟨trivial, rfl, rfl, rfl⟩)
theorem tags_at {S S2 : List (List It)} (h : S2 = S.map (List.map f0)) (k : Nat) (hk : k < S.length) : (g S2 k).map Prod.fst = (g S k).map Prod.fst ∧ (g S2 k).length = (g S k).length := by
  have e : g S2 k = (g S k).map f0 := by
    rw [h, ← Hp.g_eq (by simpa using hk), ← Hp.g_eq hk]; simp
  rw [e]
  simp [f0, Function.comp_def]

set_option maxHeartbeats 2000000 in
set_option maxRecDepth 100000 in
theorem walk (w : World) (A : Option Addr) (c : Nat) (l : List It) (As : Option Addr) (cs : Nat) (ss : List St) (hr : Rd w A (cls l)) (hn : l.length * 16 ≤ 140737488351232) (hrs : Rd w As (clsT ss)) (hns : ss.length * 32 ≤ 140737488351232) :
    Calls Try.prog 14 #[.slice A l.length c, .slice As ss.length cs] w (Gives w (.bool true)) := by
  have hln : l.length + ss.length + 1 ≤ 13194139537408 := by omega
  have HR := Lib.hid hr
  have HRS := Lib.hid hrs
  clear hr hrs
  go_enter Try.func14, Try.ntmps14
  go_wp2_with fail
  refine (toItems_any _ A _ c l rfl (HR.out.below (Below.refl w.heap.size w) (Nat.le_refl _)) (m16 (by omega))).mono ?_
  rintro e w1 ⟨A1, c1, rfl, ho1, hb1⟩
  have HRD1 := Lib.hid (Rd.of_own ho1)
  have HB1 := Lib.hid (bnext (Below.refl w.heap.size w) hb1)
  clear ho1 hb1
  go_wp2_with fail
  refine (toStepS_any _ As _ cs ss rfl (HRS.out.below HB1.out (Nat.le_refl _)) (by omega)).mono ?_
  rintro e w2 ⟨A2, c2, rfl, ho2, hb2⟩
  have HRD2 := Lib.hid (Rd.of_own ho2)
  have HRI2 := Lib.hid (HRD1.out.below hb2 (Nat.le_refl _))
  have HB2 := Lib.hid (bnext HB1.out hb2)
  clear ho2 hb2
  go_wp2_with fail
  refine (run_law w2 A1 A2 _ c1 _ c2 l ss rfl rfl HRI2.out HRD2.out hln (by omega)).mono ?_
  rintro e w3 ⟨S, O, A3, c3, Ao, co, vs, hF, rfl, hrow, hss, hout, hb3⟩
  have HF := Lib.hid hF
  have hS1 : ((S.length : Int) == (ss.length : Int) + 1) = true := by rw [hF.len]; simp
  have hS2 : ((S.length : Int) != (ss.length : Int) + 1) = false := by rw [hF.len]; simp
  have hSL : S.length ≤ ss.length + 1 := Nat.le_of_eq hF.len
  have hSG : ss.length + 1 ≤ S.length := Nat.le_of_eq hF.len.symm
  have hOL : O.length ≤ ss.length := hF.outl
  have HROW := Lib.hid hrow
  have HSS := Lib.hid hss
  have HOUT := Lib.hid hout
  have HB3 := Lib.hid (bnext HB2.out hb3)
  clear hF hrow hss hout hb3
  go_wp2_with fail
  refine (toItems_any _ A _ c l rfl (HR.out.below HB3.out (Nat.le_refl _)) (m16 (by omega))).mono ?_
  rintro e w4 ⟨A4, c4, rfl, ho4, hb4⟩
  have HB4 := Lib.hid hb4
  have HO4 := Lib.hid ho4
  clear ho4 hb4
  go_wp2_with fail
  refine (toStepS_any _ As _ cs ss rfl (HRS.out.below (bnext HB3.out HB4.out) (Nat.le_refl _)) (by omega)).mono ?_
  rintro e w5 ⟨A5, c5, rfl, ho5, hb5⟩
  have HO5 := Lib.hid (own_base ho5 HB4.out.size)
  have HO45 := Lib.hid (own_frm (X := fun _ => False) HO4.out (Frm.of_new hb5) (fun _ _ h => h))
  have HB5 := Lib.hid (bnext HB4.out hb5)
  clear ho5 hb5 HO4
  go_wp2_with fail
  go_loopw [28] (fun s28 wr => ∃ (k : Nat), s28 = .int .i64 (k : Int) ∧ k ≤ l.length ∧ Aside (wr.ownsRow w3.heap.size 36 2 (.slice A4 l.length c4) l.length (cls (mt f0 l k))) ∧ Aside (wr.ownsRow w3.heap.size 45 4 (.slice A5 ss.length c5) ss.length (clsT ss)) ∧ Below w3.heap.size w3 wr)
    (fun s28 _ => l.length - (intOf s28).toNat)
  case atStart => exact ⟨0, rfl, by omega, by rw [mt_zero]; exact HO45.out, HO5.out, HB5.out⟩
  case round =>
    obtain ⟨k, rfl, hk, hy, ht, hbw⟩ := hrel
    clear HO45 HO5 HB5
    by_cases hlt : k < l.length
    · obtain ⟨gb, hA4, hg1, hg2⟩ := own_addr hy.out (by omega)
      subst hA4
      have hml := length_mt f0 l k
      have ci := (hy.out.cellAt (k * 2 + 1) (by omega)).trans (cls_at (mt f0 l k) k (by omega)).2
      have hf := fun j => hy.out.frozenAt j
      have HY := Lib.hid (own_tag hy.out (i := k) (by omega) 0)
      rw [g_mt f0 l k hlt, show ((g l k).1, (0 : Int)) = f0 (g l k) from rfl, mt_succ f0 l k hlt] at HY
      have HT := Lib.hid (ownsRow_setCell_other (a := ⟨gb, k * 2 + 1, none⟩) ht.out (fun e => own_apart hy.out ht.out (by decide) gb rfl e) (.int .i64 0))
      have HBW := Lib.hid (hbw.setCell (p := ⟨gb, k * 2 + 1, none⟩) hg1 (.int .i64 0))
      clear hml hy ht hbw
      go_wp2
      go_roundw
      case rel => exact ⟨k + 1, by go_num, by omega, HY.out, HT.out, HBW.out⟩
      case measure => simp [intOf]; omega
    · have hkl : k = l.length := by omega
      have HY := Lib.hid (show wr.ownsRow w3.heap.size 36 2 (.slice A4 l.length c4) l.length (cls (l.map f0)) by have := hy.out; rwa [hkl, mt_all] at this)
      have HT := Lib.hid ht.out
      have HBW := Lib.hid hbw
      obtain ⟨wa, hwa⟩ : ∃ wa, wa = wr := ⟨_, rfl⟩
      rw [← hwa] at HY HT HBW ⊢
      clear hkl hy ht hbw hwa
      go_wp2_with fail
      go_loopw [38] (fun s38 wr => ∃ (k : Nat), s38 = .int .i64 (k : Int) ∧ k ≤ ss.length ∧ Aside (wr.ownsRow w3.heap.size 36 2 (.slice A4 l.length c4) l.length (cls (l.map f0))) ∧ Aside (wr.ownsRow w3.heap.size 45 4 (.slice A5 ss.length c5) ss.length (clsT (mt F0 ss k))) ∧ Below w3.heap.size w3 wr)
        (fun s38 _ => ss.length - (intOf s38).toNat)
      case atStart => exact ⟨0, rfl, by omega, HY.out, by rw [mt_zero]; exact HT.out, HBW.out⟩
      case round =>
        obtain ⟨k, rfl, hk, hy, ht, hbw⟩ := hrel
        clear HY HT HBW
        by_cases hlt : k < ss.length
        · obtain ⟨gb, hA5, hg1, hg2⟩ := own_addr ht.out (by omega)
          subst hA5
          have hml := length_mt F0 ss k
          have ci := (ht.out.cellAt (k * 4 + 3) (by omega)).trans (clsT_at (mt F0 ss k) k (by omega)).2.2.2
          have hf := fun j => ht.out.frozenAt j
          have HT := Lib.hid (own_tagT ht.out (i := k) (by omega) 0)
          rw [g_mt F0 ss k hlt, show ((g ss k).1, (g ss k).2.1, (g ss k).2.2.1, (0 : Int)) = F0 (g ss k) from rfl, mt_succ F0 ss k hlt] at HT
          have HY := Lib.hid (ownsRow_setCell_other (a := ⟨gb, k * 4 + 3, none⟩) hy.out (fun e => own_apart ht.out hy.out (by decide) gb rfl e) (.int .i64 0))
          have HBW := Lib.hid (hbw.setCell (p := ⟨gb, k * 4 + 3, none⟩) hg1 (.int .i64 0))
          clear hml hy ht hbw
          go_wp2
          go_roundw
          case rel => exact ⟨k + 1, by go_num, by omega, HY.out, HT.out, HBW.out⟩
          case measure => simp [intOf]; omega
        · have hkl : k = ss.length := by omega
          have HT := Lib.hid (show wr.ownsRow w3.heap.size 45 4 (.slice A5 ss.length c5) ss.length (clsT (ss.map F0)) by have := ht.out; rwa [hkl, mt_all] at this)
          have HRY := Lib.hid (Rd.of_own hy.out)
          have HRT := Lib.hid (Rd.of_own HT.out)
          have HBW := Lib.hid hbw
          obtain ⟨wb, hwb⟩ : ∃ wb, wb = wr := ⟨_, rfl⟩
          rw [← hwb] at HRY HRT HBW ⊢
          clear hkl hy ht hbw hwb HT
          go_wp2_with fail
          refine (run_law wb A4 A5 _ c4 _ c5 (l.map f0) (ss.map F0) (by simp) (by simp) HRY.out HRT.out (by simp; omega) (by simp; omega)).mono ?_
          rintro e w7 ⟨S2, O2, A7, c7, Ao2, co2, vs2, hF2, rfl, hrow2, hss2, hout2, hb7⟩
          have hst := tags_fin HF.out hF2
          have hSS : S2.length = S.length := by rw [hst]; simp
          have hS5 : ((S2.length : Int) != (S.length : Int)) = false := by rw [hSS]; simp
          have hS6 : S.length ≤ S2.length := by omega
          have HTA := Lib.hid (tags_at hst)
          have HROW2 := Lib.hid hrow2
          have HSS2 := Lib.hid hss2
          have HB7 := Lib.hid (bnext HBW.out hb7)
          clear hF2 hrow2 hss2 hout2 hb7 hst hSS
          go_wp2_with fail
          go_loopw [67] (fun s67 wr => ∃ (k : Nat), s67 = .int .i64 (k : Int) ∧ k ≤ S.length ∧ Below w7.heap.size w7 wr) (fun s67 _ => S.length - (intOf s67).toNat)
          case atStart => exact ⟨0, rfl, by omega, Below.refl _ _⟩
          case round =>
            obtain ⟨k, rfl, hk, hbw⟩ := hrel
            have HBK := Lib.hid hbw
            have HB3K := Lib.hid (bnext HB7.out hbw)
            clear hbw
            by_cases hlt : k < S.length
            · obtain ⟨b1, o1, Ax, cx, hA1, hb1, hcell1, hrx⟩ := st_at (HROW.out.below HB3K.out (Nat.le_refl _)) (HSS.out.below HB3K.out) k hlt
              obtain ⟨b2, o2, Ay, cy, hA2, hb2, hcell2, hry⟩ := st_at (HROW2.out.below HBK.out (Nat.le_refl _)) (HSS2.out.below HBK.out) k (by omega)
              obtain ⟨he1, he2⟩ := HTA.out k hlt
              have hxl := HF.out.size k (by omega)
              rw [Hp.length_init] at hxl
              subst hA1
              subst hA2
              obtain ⟨X, hX⟩ : ∃ X, X = g S k := ⟨_, rfl⟩
              obtain ⟨Y, hY⟩ : ∃ Y, Y = g S2 k := ⟨_, rfl⟩
              rw [← hX] at hcell1 hrx he1 he2 hxl
              rw [← hY] at hcell2 hry he1 he2
              obtain ⟨K, hK⟩ : ∃ K, K = X.map Prod.fst := ⟨_, rfl⟩
              have hkl : K.length ≤ 26388279066624 := by rw [hK, List.length_map]; omega
              have hc1 := fun (w' : World) (h : Rd w' Ax (cls X)) => keysOf_any w' Ax X.length cx X rfl h (by omega)
              have hc2 := fun (w' : World) (h : Rd w' Ay (cls Y)) => keysOf_any w' Ay Y.length cy Y rfl h (by rw [he2]; omega)
              rw [← hK] at hc1
              rw [he1, ← hK] at hc2
              have HC1 := Lib.hid hc1
              have HC2 := Lib.hid hc2
              have HRX := Lib.hid hrx
              have HRY' := Lib.hid hry
              have hkS : (k : Int) < (S.length : Int) := by omega
              have hkS2 : (k : Int) < (S2.length : Int) := by omega
              have hk0 : (0 : Int) ≤ (k : Int) := by omega
              clear hX hY hK hc1 hc2 hrx hry he1 he2
              go_wp2_with fail
              go_region_held3 (fun w' => w'.cell? ⟨b1, o1 + k, none⟩ = some (.slice Ax X.length cx) ∧ w'.cell? ⟨b2, o2 + k, none⟩ = some (.slice Ay Y.length cy))
                (first
                  | exact ⟨kc1, kc2⟩
                  | exact ⟨kb1, kb2⟩
                  | exact ⟨ka1, ka2⟩
                  | exact ⟨hcell1, hcell2⟩
                  | go_keep)
                (first
                  | (go_at_call 29
                     ((with_reducible refine (HC1.out _ ?_).mono ?_)
                      · exact HRX.out.below (Below.refl _ _).drew (Nat.le_refl _)
                      rintro e w8 ⟨A8, c8, rfl, ho8, hb8⟩
                      have ka1 := (hb8.cell (p := ⟨b1, o1 + k, none⟩) hb1).trans hcell1
                      have ka2 := (hb8.cell (p := ⟨b2, o2 + k, none⟩) hb2).trans hcell2
                      have hz1 : b1 < w8.heap.size := Nat.lt_of_lt_of_le hb1 hb8.size
                      have hz2 : b2 < w8.heap.size := Nat.lt_of_lt_of_le hb2 hb8.size
                      have HRK8 := Lib.hid (Rd.of_own ho8)
                      have HRY8 := Lib.hid (HRY'.out.below (bnext (Below.refl _ _).drew hb8) (Nat.le_refl _))))
                  | (go_at_call 29
                     ((with_reducible refine (HC2.out _ ?_).mono ?_)
                      · exact HRY8.out
                      rintro e w9 ⟨A9, c9, rfl, ho9, hb9⟩
                      have kb1 := (hb9.cell (p := ⟨b1, o1 + k, none⟩) hz1).trans ka1
                      have kb2 := (hb9.cell (p := ⟨b2, o2 + k, none⟩) hz2).trans ka2
                      have hz3 : b1 < w9.heap.size := Nat.lt_of_lt_of_le hz1 hb9.size
                      have hz4 : b2 < w9.heap.size := Nat.lt_of_lt_of_le hz2 hb9.size
                      have HRK9 := Lib.hid (Rd.of_own ho9)
                      have HRK89 := Lib.hid (HRK8.out.below hb9 (Nat.le_refl _))))
                  | (go_at_call 34
                     ((with_reducible refine (sameInts_eq _ A8 A9 _ _ c8 c9 K rfl rfl ?_ ?_ hkl).mono ?_)
                      · exact HRK89.out
                      · exact HRK9.out
                      rintro e wa ⟨rfl, hba⟩
                      have kc1 := (hba.cell (p := ⟨b1, o1 + k, none⟩) hz3).trans kb1
                      have kc2 := (hba.cell (p := ⟨b2, o2 + k, none⟩) hz4).trans kb2)))
              have HBA := Lib.hid (bnext (bnext (bnext HBK.out.drew hb8) hb9) hba)
              clear hb8 hb9 hba ka1 ka2 kb1 kb2 kc1 kc2 hcell1 hcell2 ho8 ho9
              go_wp2
              go_roundw
              case rel => exact ⟨k + 1, by go_num, by omega, HBA.out⟩
              case measure => simp [intOf]; omega
            · go_wp2
              go_ret
              exact ⟨rfl, bnext HB3.out HB3K.out⟩

theorem contract (H : Type) (enc : TypeId × Value → H) (W : World) (base : Nat) (args : Array Value) (ds gs : List (DataW H)) (before : List MemPlace)
    (hval : ∀ (j : Nat) t v, Try.f14.params[j]? = some t → args[j]? = some v → Value.okWide Try.prog W .any base t v)
    (hW : DataW.Whole enc Try.prog Try.f14.params.toList Rows.fnTagsUnseenSpec.vars false W args.toList ds gs before)
    (hsz : (DataW.weightsEach Try.prog (Try.f14.params.toList ++ Rows.fnTagsUnseenSpec.plain.varTypes Try.prog) (ds ++ gs)).all (· ≤ reachBytes) = true) :
    Calls Try.prog 14 args W fun e W' => ∃ v, e = .returned v ∧ Rows.fnTagsUnseenSpec.post enc Try.prog Try.f14 false true false false W args v W' := by
  have hW' := hW
  obtain ⟨p, q, hA0, hV, rfl, _, _⟩ := hW
  have hA : DataW.TrodAll enc Try.prog W 0 (fun _ => true) true Try.f14.params.toList args.toList ds p := hA0
  rw [Try.params14] at hA hval hsz
  obtain ⟨v0, v1, d0, d1, p0, p1, rfl, rfl, rfl, h0, h1⟩ := trodAll_two hA
  obtain ⟨rfl, rfl⟩ := trodVars_none hV
  obtain ⟨A0, c0, l0, rfl, hr0, hn0⟩ := open_items (hval 0 22 v0 rfl rfl) h0 (fun elems spare he => by
    have := sized_slice hsz (j := 0) (t := 22) (e := 55) rfl (by rw [he]; rfl) Try.underlying22
    rw [bytes_lawItem] at this
    exact this)
  obtain ⟨A1, c1, l1, rfl, hr1, hn1⟩ := open_steps (hval 1 23 v1 rfl rfl) h1 (fun elems spare he => by
    have := sized_slice hsz (j := 1) (t := 23) (e := 34) rfl (by rw [he]; rfl) Try.underlying23
    rw [bytes_lawStep] at this
    exact this)
  have hcall : Calls Try.prog 14 #[.slice A0 l0.length c0, .slice A1 l1.length c1] W (Gives W (.bool true)) := walk W A0 c0 l0 A1 c1 l1 hr0 hn0 hr1 hn1
  refine hcall.mono fun e W' ⟨he, hb⟩ => ⟨_, he, ?_⟩
  exact law_post hW' rfl rfl rfl rfl rfl (by rw [Try.params14]; exact of_decide_eq_true (by kernel_rfl)) hb

set_option maxRecDepth 100000 in
theorem lifted (os : Os) (started : os.Started) (H : Type) (enc : TypeId × Value → H) :
    ReturnsInHanded {} Try.checked os 14 .any (Rows.fnTagsUnseenSpec.pre6 enc Try.prog Try.f14 Rows.fnTagsUnseenRow.domain false) (Rows.fnTagsUnseenSpec.post enc Try.prog Try.f14 false true false false) := by
  refine returnsInHanded_of_change_sized (C := Try.checked) own started (by kernel_rfl) Try.func14
    (ChangeSpec.witness6 (enc := enc) (C := Try.checked) false ⟨#[], #[.slice none 0 0, .slice none 0 0], []⟩ 8 (by kernel_rfl) (by kernel_rfl) (by kernel_rfl) (by kernel_rfl)) ?_
  intro W base args ds gs before hval hW _ hsz _
  exact contract H enc W base args ds gs before hval hW hsz

theorem proved : Rows.FnTagsUnseenSaid :=
  OpenClaim.holds_of_wide 14 Try.f14 rfl rfl rfl rfl rfl rfl rfl ⟨rfl, rfl, rfl, rfl, rfl⟩ rfl rfl rfl rfl rfl (by kernel_rfl) Try.func14 (by kernel_rfl)
    (of_decide_eq_true (by kernel_rfl)) (by unfold Func.isWrapper; first | (rw [if_pos (by decide +kernel)]; kernel_rfl) | (rw [if_neg (by decide +kernel)]; exact ⟨rfl, rfl⟩))
    (fun os started H enc _ => lifted os started H enc)
end Go.Proofs.Ytadacjndepkfeaa.fnTagsUnseen
