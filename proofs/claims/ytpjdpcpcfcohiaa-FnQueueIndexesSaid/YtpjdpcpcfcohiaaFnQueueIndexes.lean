/-
  FnQueueIndexes returns true for every script. Condition: the reach of a slice that every statement bears.
-/
import Derived.Test.YtpjdpcpcfcohiaaDeskI
import Derived.Test.YtpjdpcpcfcohiaaOpenS
namespace Go.Proofs.Ytpjdpcpcfcohiaa.fnQueueIndexes
open Go.ChangeShapes Go.WideShapes Go.ChangeAt Go.RowKit Go.Shelf Go.Deep Go.Joins
open Hp (g swp Ev St plc ix qOut qRest pushed nums qHeap idxs)

theorem len_heap (ss : List St) : (qHeap ss).length = (qRest ss).length := (Hp.qHeap_rest ss).length_eq

set_option maxHeartbeats 4000000 in
set_option maxRecDepth 100000 in
theorem walk (w : World) (As : Option Addr) (cs : Nat) (ss : List St) (hrs : Rd w As (clsT ss)) (hns : ss.length * 32 ≤ 140737488351232) :
    Calls Try.prog 13 #[.slice As ss.length cs] w (Gives w (.bool true)) := by
  have HRS := Lib.hid hrs
  have hsl : ss.length ≤ 4398046510976 := by omega
  clear hrs hns
  go_enter Try.func13, Try.ntmps13
  go_wp2_with fail
  refine (toStepS_any _ As _ cs ss rfl HRS.out (by omega)).mono ?_
  rintro e w1 ⟨A1, c1, rfl, ho1, hb1⟩
  have HO1 := Lib.hid (Rd.of_own ho1)
  have HB1 := Lib.hid hb1
  clear ho1 hb1
  go_wp2_with fail
  refine (indexes_law w1 A1 _ c1 ss rfl HO1.out (by omega)).mono ?_
  rintro e w2 ⟨a, b, A2, c2, A3, c3, ⟨ea, eb⟩, rfl, ho2, ho3, hb2⟩
  have hpl := Hp.pushed_le ss
  have hal : a.length = pushed ss := by rw [ea, Hp.length_idxs]
  have hbl : b.length = (qRest ss).length := by rw [eb, ← len_heap]; simp
  have hrl := (q_lens ss).2.1
  have hn1 : ((a.length : Int) != ((pushed ss : Nat) : Int)) = false := by rw [hal]; simp
  have hals : a.length ≤ ss.length := by omega
  have hbls : b.length ≤ ss.length := by omega
  have HEA := Lib.hid ea
  have HEB := Lib.hid eb
  have HAL := Lib.hid hal
  have HBL := Lib.hid hbl
  have HRA := Lib.hid (Rd.of_own ho2)
  have HRB := Lib.hid (Rd.of_own ho3)
  have HB2 := Lib.hid (bnext HB1.out hb2)
  clear ea eb ho2 ho3 hb2 hal hbl hrl HO1 HB1
  go_wp2_with fail
  refine (made_any w2 As ss.length cs ss rfl (HRS.out.below HB2.out (Nat.le_refl _)) (by omega)).mono ?_
  rintro e w3 ⟨rfl, hb3⟩
  have HB23 := Lib.hid hb3
  clear hb3
  go_wp2_with fail
  refine (toStepS_any _ As _ cs ss rfl (HRS.out.below (bnext HB2.out HB23.out) (Nat.le_refl _)) (by omega)).mono ?_
  rintro e w4 ⟨A4, c4, rfl, ho4, hb4⟩
  have HO4 := Lib.hid (Rd.of_own ho4)
  have HB24 := Lib.hid (bnext HB23.out hb4)
  clear ho4 hb4 HB23
  go_wp2_with fail
  refine (rest_law w4 A4 _ c4 ss rfl HO4.out (by omega)).mono ?_
  rintro e w5 ⟨r, A5, c5, er, rfl, ho5, hb5⟩
  have hn2 : ((b.length : Int) != (r.length : Int)) = false := by rw [HBL.out, er]; simp
  have HB25 := Lib.hid (bnext HB24.out hb5)
  clear er ho5 hb5 HO4 HB24 HBL
  obtain ⟨H, hH⟩ : ∃ H, H = qHeap ss := ⟨_, rfl⟩
  have HND := Lib.hid (show (nums H).Nodup by rw [hH]; exact Hp.qHeap_nodup ss)
  have HCN := Lib.hid (show a.countP (fun i => decide (0 ≤ i)) = b.length by rw [HEA.out, HEB.out, Hp.idxs_held]; simp)
  rw [← hH] at HEA HEB
  clear hH
  go_wp2_with fail
  go_loopw [5, 6, 7, 30] (fun s5 _ _ s30 wr => ∃ (k p : Nat), s30 = .int .i64 (k : Int) ∧ k ≤ a.length ∧ s5 = .int .i64 (p : Int) ∧ p ≤ k ∧ Hid (p = (a.take k).countP (fun i => decide (0 ≤ i))) ∧ wr = w5) (fun _ _ _ s30 _ => a.length - (intOf s30).toNat)
  case atStart => exact ⟨0, 0, rfl, by omega, rfl, by omega, rfl, rfl⟩
  case round =>
    obtain ⟨k, p, rfl, hk, rfl, hp, HP, rfl⟩ := hrel
    by_cases hlt : k < a.length
    · obtain ⟨ba, oa, hA, hbb, h1⟩ := (HRA.out.below HB25.out (Nat.le_refl _)).atN k hlt
      subst hA
      have hgk : g a k = ix H (k : Int) := by rw [HEA.out]; exact Hp.idxs_at _ (by have := HAL.out; omega)
      have hst : (a.take (k + 1)).countP (fun i => decide (0 ≤ i)) = p + (if 0 ≤ g a k then 1 else 0) := by
        rw [take_succ_g a k hlt, List.countP_append, ← HP.out]
        congr 1
        by_cases e : 0 ≤ g a k <;> simp [List.countP_cons, e]
      by_cases hin : (k : Int) ∈ nums H
      · obtain ⟨i, hi, e1, e2⟩ := Hp.ix_mem hin
        rw [e1] at hgk
        have hbH : b.length = H.length := by rw [HEB.out]; simp
        have hib : i < b.length := by omega
        obtain ⟨bb, ob, hB, hbb2, h2⟩ := (HRB.out.below HB25.out (Nat.le_refl _)).atN i hib
        subst hB
        have hgb : g b i = (k : Int) := by
          rw [HEB.out, ← Hp.g_eq (by simpa using hi), Hp.nums_at hi, e2]
        rw [hgk] at h1 hst
        rw [hgb] at h2
        rw [if_pos (by omega)] at hst
        have HST := Lib.hid hst
        have g1 : decide ((i : Int) < -1) = false := decide_eq_false (by omega)
        have g2 : decide (b.length ≤ i) = false := decide_eq_false (by omega)
        have g3 : decide ((0 : Int) ≤ (i : Int)) = true := decide_eq_true (by omega)
        have g4 : (0 : Int) ≤ (i : Int) := by omega
        have g5 : (-1 : Int) ≤ (i : Int) := by omega
        clear hgk hgb hst e1 e2 hin hbH HP
        go_wp2
        go_roundw
        case rel => exact ⟨k + 1, p + 1, by go_num, by omega, by go_num, by omega, HST.out.symm, trivial⟩
        case measure => simp [intOf]; omega
      · rw [Hp.ix_none hin] at hgk
        rw [hgk] at h1 hst
        rw [if_neg (by omega)] at hst
        have HST := Lib.hid hst
        have g2 : decide ((b.length : Int) ≤ -1) = false := decide_eq_false (by omega)
        clear hgk hst hin HP
        go_wp2
        go_roundw
        case rel => exact ⟨k + 1, p, by go_num, by omega, rfl, by omega, HST.out.symm, trivial⟩
        case measure => simp [intOf]; omega
    · have hpe : p = b.length := by
        rw [HP.out, List.take_of_length_le (by omega)]
        exact HCN.out
      have hq : ((p : Int) == (b.length : Int)) = true := by rw [hpe]; simp
      clear hpe HP
      go_wp2
      go_ret
      exact ⟨rfl, bnext HB2.out HB25.out⟩

theorem contract (H : Type) (enc : TypeId × Value → H) (W : World) (base : Nat) (args : Array Value) (ds gs : List (DataW H)) (before : List MemPlace)
    (hval : ∀ (j : Nat) t v, Try.f13.params[j]? = some t → args[j]? = some v → Value.okWide Try.prog W .any base t v)
    (hW : DataW.Whole enc Try.prog Try.f13.params.toList Rows.fnQueueIndexesSpec.vars false W args.toList ds gs before)
    (hsz : (DataW.weightsEach Try.prog (Try.f13.params.toList ++ Rows.fnQueueIndexesSpec.plain.varTypes Try.prog) (ds ++ gs)).all (· ≤ reachBytes) = true) :
    Calls Try.prog 13 args W fun e W' => ∃ v, e = .returned v ∧ Rows.fnQueueIndexesSpec.post enc Try.prog Try.f13 false true false false W args v W' := by
  have hW' := hW
  obtain ⟨p, q, hA0, hV, rfl, _, _⟩ := hW
  have hA : DataW.TrodAll enc Try.prog W 0 (fun _ => true) true Try.f13.params.toList args.toList ds p := hA0
  rw [Try.params13] at hA hval hsz
  obtain ⟨v0, d0, rfl, rfl, h0⟩ := trodAll_one hA
  obtain ⟨rfl, rfl⟩ := trodVars_none hV
  obtain ⟨A0, c0, l0, rfl, hr0, hn0⟩ := open_steps (hval 0 22 v0 rfl rfl) h0 (fun elems spare he => by
    have := sized_slice hsz (j := 0) (t := 22) (e := 57) rfl (by rw [he]; rfl) Try.underlying22
    rw [bytes_lawStep] at this
    exact this)
  have hcall : Calls Try.prog 13 #[.slice A0 l0.length c0] W (Gives W (.bool true)) := walk W A0 c0 l0 hr0 hn0
  refine hcall.mono fun e W' ⟨he, hb⟩ => ⟨_, he, ?_⟩
  exact law_post hW' rfl rfl rfl rfl rfl (by rw [Try.params13]; exact of_decide_eq_true (by kernel_rfl)) hb

set_option maxRecDepth 100000 in
theorem lifted (os : Os) (started : os.Started) (H : Type) (enc : TypeId × Value → H) :
    ReturnsInHanded {} Try.checked os 13 .any (Rows.fnQueueIndexesSpec.pre6 enc Try.prog Try.f13 Rows.fnQueueIndexesRow.domain false) (Rows.fnQueueIndexesSpec.post enc Try.prog Try.f13 false true false false) := by
  refine returnsInHanded_of_change_sized (C := Try.checked) own started (by kernel_rfl) Try.func13
    (ChangeSpec.witness6 (enc := enc) (C := Try.checked) false ⟨#[], #[.slice none 0 0], []⟩ 8 (by kernel_rfl) (by kernel_rfl) (by kernel_rfl) (by kernel_rfl)) ?_
  intro W base args ds gs before hval hW _ hsz _
  exact contract H enc W base args ds gs before hval hW hsz

theorem proved : Rows.FnQueueIndexesSaid :=
  OpenClaim.holds_of_wide 13 Try.f13 rfl rfl rfl rfl rfl rfl rfl ⟨rfl, rfl, rfl, rfl, rfl⟩ rfl rfl rfl rfl rfl (by kernel_rfl) Try.func13 (by kernel_rfl)
    (of_decide_eq_true (by kernel_rfl)) (by unfold Func.isWrapper; first | (rw [if_pos (by decide +kernel)]; kernel_rfl) | (rw [if_neg (by decide +kernel)]; exact ⟨rfl, rfl⟩))
    (fun os started H enc _ => lifted os started H enc)
end Go.Proofs.Ytpjdpcpcfcohiaa.fnQueueIndexes
