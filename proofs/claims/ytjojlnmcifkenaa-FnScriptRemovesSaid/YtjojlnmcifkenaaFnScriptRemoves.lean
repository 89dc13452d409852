/-
  FnScriptRemoves returns true for every list of numbers and every script. Condition: the reach of a slice that every statement bears.
-/
import Derived.Test.YtjojlnmcifkenaaScriptL
import Derived.Test.YtjojlnmcifkenaaOpenS
import Derived.Test.YtjojlnmcifkenaaMt
import Derived.Test.YtjojlnmcifkenaaPlainB
namespace Go.Proofs.Ytjojlnmcifkenaa.fnScriptRemoves
open Go.ChangeShapes Go.WideShapes Go.ChangeAt Go.RowKit Go.Shelf Go.Deep Go.Joins
open Hp (g swp Ev St plc)

def F23 (s : St) : St := if s.1 = 2 then (3, s.2) else s
theorem stp23 (s : St) (m : List Int) : Hp.stpA (F23 s) m = Hp.stpA s m := by
  unfold F23
  split
  · next h =>
    unfold Hp.stpA
    simp only [h]
    cases m <;> simp
  · rfl
theorem same23 (ss : List St) (m : List Int) : Hp.outA m (ss.map F23) = Hp.outA m ss ∧ Hp.aftA m (ss.map F23) = Hp.aftA m ss := by
  induction ss generalizing m with
  | nil => exact ⟨rfl, rfl⟩
  | cons s ss ih =>
    rw [List.map_cons]
    unfold Hp.outA Hp.aftA
    rw [stp23]
    exact ⟨by rw [(ih _).1], (ih _).2⟩
theorem mt23_yes (ss : List St) (k : Nat) (hk : k < ss.length) (h : (g ss k).1 = 2) : (mt F23 ss k).set k (3, (g (mt F23 ss k) k).2.1, (g (mt F23 ss k) k).2.2.1, (g (mt F23 ss k) k).2.2.2) = mt F23 ss (k + 1) := by
  rw [← mt_succ F23 ss k hk, g_mt F23 ss k hk, F23, if_pos h]
theorem mt23_no (ss : List St) (k : Nat) (hk : k < ss.length) (h : ¬ (g ss k).1 = 2) : mt F23 ss k = mt F23 ss (k + 1) := by
  rw [← mt_succ F23 ss k hk, F23, if_neg h]
  have e : g ss k = g (mt F23 ss k) k := (g_mt F23 ss k hk).symm
  rw [e, Hp.set_self (by rw [length_mt]; exact hk)]

set_option maxHeartbeats 2000000 in
set_option maxRecDepth 100000 in
theorem walk (w : World) (A : Option Addr) (c : Nat) (x : List Int) (As : Option Addr) (cs : Nat) (ss : List St) (hr : Rd w A (clsN x)) (hn : x.length * 8 ≤ 140737488351232) (hrs : Rd w As (clsT ss)) (hns : ss.length * 32 ≤ 140737488351232) :
    Calls Try.prog 7 #[.slice A x.length c, .slice As ss.length cs] w (Gives w (.bool true)) := by
  have hln : x.length + ss.length + 1 ≤ 26388279066624 := by omega
  have HR := Lib.hid hr
  have HRS := Lib.hid hrs
  clear hr hrs
  go_enter Try.func7, Try.ntmps7
  go_wp2_with fail
  refine (toStepS_any _ As _ cs ss rfl HRS.out (by omega)).mono ?_
  rintro e w1 ⟨A1, c1, rfl, ho1, hb1⟩
  have HRD1 := Lib.hid (Rd.of_own ho1)
  have HB1 := Lib.hid hb1
  clear ho1 hb1
  go_wp2_with fail
  refine (toStepS_any _ As _ cs ss rfl (HRS.out.below HB1.out (Nat.le_refl _)) (by omega)).mono ?_
  rintro e w2 ⟨A2, c2, rfl, ho2, hb2⟩
  have HO2 := Lib.hid ho2
  have HB2 := Lib.hid hb2
  clear ho2 hb2
  go_wp2_with fail
  go_loopw [18] (fun s18 wr => ∃ (k : Nat), s18 = .int .i64 (k : Int) ∧ k ≤ ss.length ∧ Aside (wr.ownsRow w1.heap.size 36 4 (.slice A2 ss.length c2) ss.length (clsT (mt F23 ss k))) ∧ Below w1.heap.size w1 wr)
    (fun s18 _ => ss.length - (intOf s18).toNat)
  case atStart => exact ⟨0, rfl, by omega, by rw [mt_zero]; exact HO2.out, HB2.out⟩
  case round =>
    obtain ⟨k, rfl, hk, ht, hbw⟩ := hrel
    clear HO2 HB2
    by_cases hlt : k < ss.length
    · obtain ⟨gb, hA2, hg1, hg2⟩ := own_addr ht.out (by omega)
      subst hA2
      have hml := length_mt F23 ss k
      have ci := (ht.out.cellAt (k * 4) (by omega)).trans (clsT_at (mt F23 ss k) k (by omega)).1
      rw [g_mt F23 ss k hlt] at ci
      have hf := fun j => ht.out.frozenAt j
      obtain ⟨q, hq⟩ : ∃ q, (g ss k).1 = q := ⟨_, rfl⟩
      rw [hq] at ci
      by_cases hq2 : q = 2
      · subst hq2
        have HT := Lib.hid (own_kindT ht.out (i := k) (by omega) 3)
        rw [mt23_yes ss k hlt hq] at HT
        have HBW := Lib.hid (hbw.setCell (p := ⟨gb, k * 4, none⟩) hg1 (.int .i64 3))
        clear hml ht hbw hq
        go_wp2
        go_roundw
        case rel => exact ⟨k + 1, by go_num, by omega, HT.out, HBW.out⟩
        case measure => simp [intOf]; omega
      · have hk2 : (q == 2) = false := by simpa using hq2
        have HT := Lib.hid ht.out
        rw [mt23_no ss k hlt (by rw [hq]; exact hq2)] at HT
        have HBW := Lib.hid hbw
        clear hml ht hbw hq hq2
        go_wp2
        go_roundw
        case rel => exact ⟨k + 1, by go_num, by omega, HT.out, HBW.out⟩
        case measure => simp [intOf]; omega
    · have hkl : k = ss.length := by omega
      have HT := Lib.hid (show Rd wr A2 (clsT (ss.map F23)) by have := Rd.of_own ht.out; rwa [hkl, mt_all] at this)
      have HBW := Lib.hid (bnext HB1.out hbw)
      have HRA := Lib.hid (HRD1.out.below hbw (Nat.le_refl _))
      obtain ⟨T2, hT2⟩ : ∃ T2, T2 = ss.map F23 := ⟨_, rfl⟩
      rw [← hT2] at HT
      have HT2l := Lib.hid (show ss.length = T2.length by rw [hT2]; simp)
      have hT2n : T2.length ≤ ss.length := by rw [hT2]; simp
      obtain ⟨e1, e2⟩ := same23 ss (Hp.srt x)
      rw [← hT2] at e1 e2
      have HE := Lib.hid (And.intro e1 e2)
      clear hkl ht hbw hT2 e1 e2
      go_wp2_with fail
      refine (script_law wr A A1 _ c _ c1 x ss rfl rfl (HR.out.below HBW.out (Nat.le_refl _)) HRA.out hln).mono ?_
      rintro e w3 ⟨a, b, A3, c3, A4, c4, ⟨ea, eb⟩, rfl, h1, h2, h3, h4⟩
      have hln2 := outA_length ss (Hp.srt x)
      rw [← ea, ← eb, Hp.length_srt] at hln2
      obtain ⟨hal, hbl⟩ := hln2
      have HEA := Lib.hid ea
      have HEB := Lib.hid eb
      have HRA3 := Lib.hid (Rd.of_own h1)
      have HRB3 := Lib.hid (Rd.of_own h2)
      have HB3 := Lib.hid (bnext HBW.out h4)
      have HRT3 := Lib.hid (HT.out.below h4 (Nat.le_refl _))
      clear ea eb h1 h2 h3 h4
      go_wp2_with fail
      refine (script_law w3 A A2 _ c _ c2 x T2 rfl HT2l.out (HR.out.below HB3.out (Nat.le_refl _)) HRT3.out (by omega)).mono ?_
      rintro e w5 ⟨a', b', A5, c5, A6, c6, ⟨ea, eb⟩, rfl, h1, h2, h3, h4⟩
      obtain ⟨e1, e2⟩ := HE.out
      rw [e1, ← HEA.out] at ea
      rw [e2, ← HEB.out] at eb
      subst ea
      subst eb
      have HRA5 := Lib.hid (Rd.of_own h1)
      have HRB5 := Lib.hid (Rd.of_own h2)
      have HB35 := Lib.hid h4
      have HB5 := Lib.hid (bnext HB3.out h4)
      clear e1 e2 h1 h2 h3 h4
      go_wp2_with fail
      refine (whole_any w5 A _ c x rfl (HR.out.below HB5.out (Nat.le_refl _)) (by omega)).mono ?_
      rintro e w7 ⟨rfl, hb7⟩
      have HB7 := Lib.hid hb7
      have HB37 := Lib.hid (bnext HB35.out hb7)
      clear hb7
      go_wp2_with fail
      refine (sameInts_eq w7 A3 A5 _ _ c3 c5 a' rfl rfl (HRA3.out.below HB37.out (Nat.le_refl _)) (HRA5.out.below HB7.out (Nat.le_refl _)) (by omega)).mono ?_
      rintro e w8 ⟨rfl, hb8⟩
      have HB8 := Lib.hid (bnext HB7.out hb8)
      have HB38 := Lib.hid (bnext HB37.out hb8)
      clear hb8
      go_wp2_with fail
      refine (sameInts_eq w8 A4 A6 _ _ c4 c6 b' rfl rfl (HRB3.out.below HB38.out (Nat.le_refl _)) (HRB5.out.below HB8.out (Nat.le_refl _)) (by omega)).mono ?_
      rintro e w9 ⟨rfl, hb9⟩
      have HB9 := Lib.hid (bnext (bnext HB5.out HB8.out) hb9)
      clear hb9
      go_wp2
      go_ret
      exact ⟨rfl, HB9.out⟩

theorem contract (H : Type) (enc : TypeId × Value → H) (W : World) (base : Nat) (args : Array Value) (ds gs : List (DataW H)) (before : List MemPlace)
    (hval : ∀ (j : Nat) t v, Try.f7.params[j]? = some t → args[j]? = some v → Value.okWide Try.prog W .any base t v)
    (hW : DataW.Whole enc Try.prog Try.f7.params.toList Rows.fnScriptRemovesSpec.vars false W args.toList ds gs before)
    (hsz : (DataW.weightsEach Try.prog (Try.f7.params.toList ++ Rows.fnScriptRemovesSpec.plain.varTypes Try.prog) (ds ++ gs)).all (· ≤ reachBytes) = true) :
    Calls Try.prog 7 args W fun e W' => ∃ v, e = .returned v ∧ Rows.fnScriptRemovesSpec.post enc Try.prog Try.f7 false true false false W args v W' := by
  have hW' := hW
  obtain ⟨p, q, hA0, hV, rfl, _, _⟩ := hW
  have hA : DataW.TrodAll enc Try.prog W 0 (fun _ => true) true Try.f7.params.toList args.toList ds p := hA0
  rw [Try.params7] at hA hval hsz
  obtain ⟨v0, v1, d0, d1, p0, p1, rfl, rfl, rfl, h0, h1⟩ := trodAll_two hA
  obtain ⟨rfl, rfl⟩ := trodVars_none hV
  obtain ⟨A0, c0, l0, rfl, hr0, hn0⟩ := open_intsl (hval 0 22 v0 rfl rfl) h0 (fun elems spare he => by
    have := sized_slice hsz (j := 0) (t := 22) (e := 3) rfl (by rw [he]; rfl) Try.underlying22
    rw [bytes_int] at this
    exact this)
  obtain ⟨A1, c1, l1, rfl, hr1, hn1⟩ := open_steps (hval 1 23 v1 rfl rfl) h1 (fun elems spare he => by
    have := sized_slice hsz (j := 1) (t := 23) (e := 46) rfl (by rw [he]; rfl) Try.underlying23
    rw [bytes_lawStep] at this
    exact this)
  have hcall : Calls Try.prog 7 #[.slice A0 l0.length c0, .slice A1 l1.length c1] W (Gives W (.bool true)) := walk W A0 c0 l0 A1 c1 l1 hr0 hn0 hr1 hn1
  refine hcall.mono fun e W' ⟨he, hb⟩ => ⟨_, he, ?_⟩
  exact law_post hW' rfl rfl rfl rfl rfl (by rw [Try.params7]; exact of_decide_eq_true (by kernel_rfl)) hb

set_option maxRecDepth 100000 in
theorem lifted (os : Os) (started : os.Started) (H : Type) (enc : TypeId × Value → H) :
    ReturnsInHanded {} Try.checked os 7 .any (Rows.fnScriptRemovesSpec.pre6 enc Try.prog Try.f7 Rows.fnScriptRemovesRow.domain false) (Rows.fnScriptRemovesSpec.post enc Try.prog Try.f7 false true false false) := by
  refine returnsInHanded_of_change_sized (C := Try.checked) own started (by kernel_rfl) Try.func7
    (ChangeSpec.witness6 (enc := enc) (C := Try.checked) false ⟨#[], #[.slice none 0 0, .slice none 0 0], []⟩ 8 (by kernel_rfl) (by kernel_rfl) (by kernel_rfl) (by kernel_rfl)) ?_
  intro W base args ds gs before hval hW _ hsz _
  exact contract H enc W base args ds gs before hval hW hsz

theorem proved : Rows.FnScriptRemovesSaid :=
  OpenClaim.holds_of_wide 7 Try.f7 rfl rfl rfl rfl rfl rfl rfl ⟨rfl, rfl, rfl, rfl, rfl⟩ rfl rfl rfl rfl rfl (by kernel_rfl) Try.func7 (by kernel_rfl)
    (of_decide_eq_true (by kernel_rfl)) (by unfold Func.isWrapper; first | (rw [if_pos (by decide +kernel)]; kernel_rfl) | (rw [if_neg (by decide +kernel)]; exact ⟨rfl, rfl⟩))
    (fun os started H enc _ => lifted os started H enc)
end Go.Proofs.Ytjojlnmcifkenaa.fnScriptRemoves
