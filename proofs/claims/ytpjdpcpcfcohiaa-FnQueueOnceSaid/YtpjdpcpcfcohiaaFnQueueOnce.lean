/-
  FnQueueOnce returns true for every script. Condition: the reach of a slice that every statement bears.
-/
import Derived.Test.YtpjdpcpcfcohiaaDeskL
import Derived.Test.YtpjdpcpcfcohiaaOpenS
namespace Go.Proofs.Ytpjdpcpcfcohiaa.fnQueueOnce
open Go.ChangeShapes Go.WideShapes Go.ChangeAt Go.RowKit Go.Shelf Go.Deep Go.Joins
open Hp (g swp Ev St plc qOut qRest pushed nums)

set_option maxHeartbeats 2000000 in
set_option maxRecDepth 100000 in
theorem walk (w : World) (As : Option Addr) (cs : Nat) (ss : List St) (hrs : Rd w As (clsT ss)) (hns : ss.length * 32 ≤ 140737488351232) :
    Calls Try.prog 10 #[.slice As ss.length cs] w (Gives w (.bool true)) := by
  have HRS := Lib.hid hrs
  have hsl : ss.length ≤ 4398046510976 := by omega
  clear hrs hns
  go_enter Try.func10, Try.ntmps10
  go_wp2_with fail
  refine (toStepS_any _ As _ cs ss rfl HRS.out (by omega)).mono ?_
  rintro e w1 ⟨A1, c1, rfl, ho1, hb1⟩
  have HO1 := Lib.hid (Rd.of_own ho1)
  have HB1 := Lib.hid hb1
  clear ho1 hb1
  go_wp2_with fail
  refine (queue_law w1 A1 _ c1 ss rfl HO1.out (by omega)).mono ?_
  rintro e w2 ⟨a, A2, c2, ea, rfl, ho2, hb2⟩
  have HEA := Lib.hid ea
  have HO2 := Lib.hid ho2
  have HB2 := Lib.hid (bnext HB1.out hb2)
  have hl12 := hb2.size
  clear ea ho2 hb2
  go_wp2_with fail
  refine (toStepS_any _ As _ cs ss rfl (HRS.out.below HB2.out (Nat.le_refl _)) (by omega)).mono ?_
  rintro e w3 ⟨A3, c3, rfl, ho3, hb3⟩
  have HO3 := Lib.hid (Rd.of_own ho3)
  have HB23 := Lib.hid hb3
  clear ho3 hb3
  go_wp2_with fail
  refine (rest_law w3 A3 _ c3 ss rfl HO3.out (by omega)).mono ?_
  rintro e w4 ⟨b, A4, c4, eb, rfl, ho4, hb4⟩
  obtain ⟨l1, l2, l3⟩ := q_lens ss
  rw [← HEA.out, ← eb] at l3
  obtain ⟨Z, hZ⟩ : ∃ Z, Z = a ++ b := ⟨_, rfl⟩
  have hZl : Z.length ≤ ss.length := by rw [hZ, List.length_append]; exact l3
  have hB24 := bnext HB23.out hb4
  have hB4 := bnext HB2.out hB24
  have hl1 := HB1.out.size
  have hl24 := hB24.size
  obtain ⟨A5, c5, w5, hrun, ho5, hg5⟩ := run_append_its w4 w1.heap.size _ a b A4 c4 (own_below HO2.out hB24) (Rd.of_own ho4) (by omega) (by omega) 24
  have hB5 := hB4.grown hg5 (by omega) (fun k hk => Nat.le_trans hl1 (HO2.out.lt k hk).1)
  have hZn : nums Z = nums (qOut ss ++ qRest ss) := by rw [hZ, HEA.out, eb]
  have hcnt : ∀ n, n < pushed ss → (nums Z).count (n : Int) = 1 := fun n hn => by rw [hZn]; exact Hp.qOnce ss n hn
  have hlen : Z.length = pushed ss := by rw [hZ, HEA.out, eb, List.length_append]; exact Hp.qLen ss
  have hpl := Hp.pushed_le ss
  rw [← List.length_append, ← hZ] at ho5 hrun
  have HRZ := Lib.hid (Rd.of_own ho5)
  have HRUN := Lib.hid hrun
  have HB5 := Lib.hid hB5
  have HCNT := Lib.hid hcnt
  have HLEN := Lib.hid hlen
  clear eb ho4 hb4 hB4 hB24 hrun ho5 hg5 hB5 hZn hcnt hlen l1 l2 l3 hZ HEA HO2 HB2 HB23 HB1 HO1 HO3
  go_wp2_with (at_builtin; refine wpList_append_run rfl _ _ _ rfl _ _ _ _ rfl rfl HRUN.out ?_)
  go_loopw [4, 17] (fun s4 s17 wr => ∃ (k : Nat) (A6 : Option Addr) (c6 : Nat), s17 = .int .i64 (k : Int) ∧ k ≤ Z.length ∧ s4 = .slice A6 k c6 ∧ Aside (wr.ownsRow w5.heap.size 3 1 (.slice A6 k c6) k (clsN (nums (Z.take k)))) ∧ Below w5.heap.size w5 wr)
    (fun _ s17 _ => Z.length - (intOf s17).toNat)
  case atStart => exact ⟨0, none, 0, rfl, by omega, rfl, World.ownsRow_nil _ _ _ _, Below.refl _ _⟩
  case round =>
    obtain ⟨k, A6, c6, rfl, hk, rfl, hown, hb⟩ := hrel
    have hsz := hb.size
    by_cases hlt : k < Z.length
    · obtain ⟨b6, o6, hA, hbb, h1, h2⟩ := (HRZ.out.below hb (Nat.le_refl _)).at_ k hlt
      subst hA
      obtain ⟨⟨y1, y2⟩, hy⟩ : ∃ y, g Z k = y := ⟨_, rfl⟩
      rw [hy] at h1 h2
      obtain ⟨L, hL⟩ : ∃ L, L = nums (Z.take k) := ⟨_, rfl⟩
      have hLl : L.length = k := by rw [hL]; simp; omega
      have hb2 := (hb.alloc hsz (.cells #[.int .i64 y1, .int .i64 y2] 34)).alloc (by simp; omega) (.cells #[.int .i64 y2] 3)
      have ho2 : ((wr.alloc (.cells #[.int .i64 y1, .int .i64 y2] 34)).alloc (.cells #[.int .i64 y2] 3)).ownsRow w5.heap.size 3 1 (.slice A6 k c6) L.length (clsN L) := by
        rw [hLl, hL]
        exact (hown.out.alloc _).alloc _
      have hz := heap_alloc_new (wr.alloc (.cells #[.int .i64 y1, .int .i64 y2] 34)) (.cells #[.int .i64 y2] 3)
      rw [heap_size_alloc] at hz
      obtain ⟨A7, c7, w7, hrun, ho7, hg7, _⟩ := run_append_int Try.underlying38 ho2 y2 (wr.heap.size + 1) hz (by rw [hLl]; omega) (by simp; omega) 38
      rw [hLl] at hrun ho7
      have HRUN7 := Lib.hid hrun
      have HO7 := Lib.hid (show w7.ownsRow w5.heap.size 3 1 (.slice A7 (k + 1) c7) (k + 1) (clsN (nums (Z.take (k + 1)))) by
        rw [take_succ_g Z k hlt, hy]
        have e : nums (Z.take k ++ [(y1, y2)]) = L ++ [y2] := by rw [hL]; simp [nums]
        rw [e]
        exact ho7)
      have HB7 := Lib.hid (hb2.grown hg7 hb2.size (fun j hj => (ho2.lt j hj).1))
      clear hy hL hLl hb2 ho2 hz hrun ho7 hg7 hown hb
      go_wp2_with (at_builtin; refine wpList_append_run rfl _ _ _ rfl _ _ _ _ rfl rfl HRUN7.out ?_)
      go_roundw
      case rel => exact ⟨k + 1, A7, c7, by go_num, by omega, rfl, HO7.out, HB7.out⟩
      case measure => simp [intOf]; omega
    · have hkl : k = Z.length := by omega
      subst hkl
      have ho := hown.out
      rw [List.take_length] at ho
      obtain ⟨X, hX⟩ : ∃ X, X = nums Z := ⟨_, rfl⟩
      have hXl : X.length = Z.length := by rw [hX]; simp
      rw [← hX] at ho HCNT
      rw [← hXl] at ho
      have HRX := Lib.hid (Rd.of_own ho)
      have HXL := Lib.hid hXl
      have HB8 := Lib.hid (bnext HB5.out hb)
      have hXs : X.length ≤ ss.length := by rw [hXl]; exact hZl
      obtain ⟨P, hP⟩ : ∃ P, P = pushed ss := ⟨_, rfl⟩
      rw [← hP] at HLEN HCNT hpl
      have HPP := Lib.hid hP
      rw [HLEN.out] at HXL
      have HXP := Lib.hid (show Z.length = P from HLEN.out)
      clear hown hb ho hX hXl hP HRZ HB5 HRUN HLEN
      rw [HXP.out]
      obtain ⟨wo, rfl⟩ : ∃ wo : World, wo = wr := ⟨_, rfl⟩
      go_wp2_with fail
      go_loopw [7] (fun s7 wi => ∃ (j : Nat), s7 = .int .i64 (j : Int) ∧ j ≤ P ∧ Below wo.heap.size wo wi) (fun s7 _ => P - (intOf s7).toNat)
      case atStart => exact ⟨0, rfl, by omega, Below.refl _ _⟩
      case round =>
        obtain ⟨j, rfl, hj, hbi⟩ := hrel
        have HBI := Lib.hid hbi
        clear hbi
        have hmd := made_any wr As ss.length cs ss rfl (HRS.out.below (bnext HB8.out HBI.out) (Nat.le_refl _)) (by omega)
        rw [← HPP.out] at hmd
        have HMD := Lib.hid hmd
        clear hmd
        go_wp2_with fail
        refine HMD.out.mono ?_
        rintro e w9 ⟨rfl, hb9⟩
        have HB9 := Lib.hid (bnext HBI.out hb9)
        clear hb9 HMD
        by_cases hjl : j < P
        · have hc := countInt_any w9 A6 P c6 X (j : Int) HXL.out.symm (HRX.out.below HB9.out (Nat.le_refl _)) (by omega)
          rw [HCNT.out j hjl] at hc
          have HC := Lib.hid hc
          clear hc
          go_wp2_with fail
          refine HC.out.mono ?_
          rintro e w10 ⟨rfl, hb10⟩
          have HB10 := Lib.hid (bnext HB9.out hb10)
          clear hb10 HC
          go_wp2
          go_roundw
          case rel => exact ⟨j + 1, by go_num, by omega, HB10.out⟩
          case measure => simp [intOf]; omega
        · have hmd := made_any w9 As ss.length cs ss rfl (HRS.out.below (bnext HB8.out HB9.out) (Nat.le_refl _)) (by omega)
          rw [← HPP.out] at hmd
          have HMD := Lib.hid hmd
          clear hmd
          go_wp2_with fail
          refine HMD.out.mono ?_
          rintro e w11 ⟨rfl, hb11⟩
          have HB11 := Lib.hid (bnext (bnext HB8.out HB9.out) hb11)
          clear hb11 HMD
          go_wp2
          go_ret
          exact ⟨rfl, HB11.out⟩

theorem contract (H : Type) (enc : TypeId × Value → H) (W : World) (base : Nat) (args : Array Value) (ds gs : List (DataW H)) (before : List MemPlace)
    (hval : ∀ (j : Nat) t v, Try.f10.params[j]? = some t → args[j]? = some v → Value.okWide Try.prog W .any base t v)
    (hW : DataW.Whole enc Try.prog Try.f10.params.toList Rows.fnQueueOnceSpec.vars false W args.toList ds gs before)
    (hsz : (DataW.weightsEach Try.prog (Try.f10.params.toList ++ Rows.fnQueueOnceSpec.plain.varTypes Try.prog) (ds ++ gs)).all (· ≤ reachBytes) = true) :
    Calls Try.prog 10 args W fun e W' => ∃ v, e = .returned v ∧ Rows.fnQueueOnceSpec.post enc Try.prog Try.f10 false true false false W args v W' := by
  have hW' := hW
  obtain ⟨p, q, hA0, hV, rfl, _, _⟩ := hW
  have hA : DataW.TrodAll enc Try.prog W 0 (fun _ => true) true Try.f10.params.toList args.toList ds p := hA0
  rw [Try.params10] at hA hval hsz
  obtain ⟨v0, d0, rfl, rfl, h0⟩ := trodAll_one hA
  obtain ⟨rfl, rfl⟩ := trodVars_none hV
  obtain ⟨A0, c0, l0, rfl, hr0, hn0⟩ := open_steps (hval 0 22 v0 rfl rfl) h0 (fun elems spare he => by
    have := sized_slice hsz (j := 0) (t := 22) (e := 57) rfl (by rw [he]; rfl) Try.underlying22
    rw [bytes_lawStep] at this
    exact this)
  have hcall : Calls Try.prog 10 #[.slice A0 l0.length c0] W (Gives W (.bool true)) := walk W A0 c0 l0 hr0 hn0
  refine hcall.mono fun e W' ⟨he, hb⟩ => ⟨_, he, ?_⟩
  exact law_post hW' rfl rfl rfl rfl rfl (by rw [Try.params10]; exact of_decide_eq_true (by kernel_rfl)) hb

set_option maxRecDepth 100000 in
theorem lifted (os : Os) (started : os.Started) (H : Type) (enc : TypeId × Value → H) :
    ReturnsInHanded {} Try.checked os 10 .any (Rows.fnQueueOnceSpec.pre6 enc Try.prog Try.f10 Rows.fnQueueOnceRow.domain false) (Rows.fnQueueOnceSpec.post enc Try.prog Try.f10 false true false false) := by
  refine returnsInHanded_of_change_sized (C := Try.checked) own started (by kernel_rfl) Try.func10
    (ChangeSpec.witness6 (enc := enc) (C := Try.checked) false ⟨#[], #[.slice none 0 0], []⟩ 8 (by kernel_rfl) (by kernel_rfl) (by kernel_rfl) (by kernel_rfl)) ?_
  intro W base args ds gs before hval hW _ hsz _
  exact contract H enc W base args ds gs before hval hW hsz

theorem proved : Rows.FnQueueOnceSaid :=
  OpenClaim.holds_of_wide 10 Try.f10 rfl rfl rfl rfl rfl rfl rfl ⟨rfl, rfl, rfl, rfl, rfl⟩ rfl rfl rfl rfl rfl (by kernel_rfl) Try.func10 (by kernel_rfl)
    (of_decide_eq_true (by kernel_rfl)) (by unfold Func.isWrapper; first | (rw [if_pos (by decide +kernel)]; kernel_rfl) | (rw [if_neg (by decide +kernel)]; exact ⟨rfl, rfl⟩))
    (fun os started H enc _ => lifted os started H enc)
end Go.Proofs.Ytpjdpcpcfcohiaa.fnQueueOnce
