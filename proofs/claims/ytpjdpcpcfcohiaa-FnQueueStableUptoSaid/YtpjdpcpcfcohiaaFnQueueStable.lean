/-
  FnQueueStable returns true for every list of numbers. Condition: the reach of a slice and the bound on the bulk that the statement bears.
-/
import Derived.Test.YtpjdpcpcfcohiaaDeskL
import Derived.Test.YtpjdpcpcfcohiaaOpenU
import Derived.IntWalk
namespace Go.Proofs.Ytpjdpcpcfcohiaa.fnQueueStable
open Go.ChangeShapes Go.WideShapes Go.ChangeAt Go.RowKit Go.Shelf Go.Deep Go.Joins
open Hp (g swp Ev St plc qOut qRest pushed nums)

set_option maxHeartbeats 4000000 in
set_option maxRecDepth 100000 in
theorem walk (w : World) (A : Option Addr) (c : Nat) (x : List Int) (hr : Rd w A (clsN x)) (_hn : x.length * 8 ≤ 140737488351232) (hu : x.length ≤ 1048576) :
    Calls Try.prog 7 #[.slice A x.length c] w (Gives w (.bool true)) := by
  have HR := Lib.hid hr
  clear hr _hn
  go_enter Try.func7, Try.ntmps7
  go_wp2_with fail
  refine (pushes_any _ A _ c x rfl HR.out (by omega)).mono ?_
  rintro e w1 ⟨A1, c1, rfl, ho1, hb1⟩
  obtain ⟨SS, hSS⟩ : ∃ SS, SS = x.map stPush := ⟨_, rfl⟩
  rw [← hSS] at ho1 ⊢
  have hSl : SS.length ≤ x.length := by rw [hSS]; simp
  have HRS := Lib.hid (Rd.of_own ho1)
  have HB1 := Lib.hid hb1
  have HST := Lib.hid (show _ from Hp.stable x)
  have HSS := Lib.hid (show SS = x.map Hp.stP from hSS)
  clear ho1 hb1 hSS
  go_wp2_with fail
  refine (rest_law w1 A1 _ c1 SS rfl HRS.out (by omega)).mono ?_
  rintro e w2 ⟨Y, A2, c2, eY, rfl, ho2, hb2⟩
  rw [HSS.out] at eY
  have hst := HST.out
  rw [← eY] at hst
  have hYl : Y.length = x.length := hst.1
  have hne : ((Y.length : Int) != (x.length : Int)) = false := by rw [hYl]; simp
  have hYs : Y.length ≤ x.length := Nat.le_of_eq hYl
  have HY := Lib.hid hst.2
  have HYL := Lib.hid hYl
  have HRY := Lib.hid (Rd.of_own ho2)
  have HB2 := Lib.hid (bnext HB1.out hb2)
  clear eY ho2 hb2 hst hYl HRS HSS HST HB1
  go_wp2_with fail
  go_loopw [4, 16] (fun _ s16 wr => ∃ (k : Nat), s16 = .int .i64 (k : Int) ∧ k ≤ Y.length ∧ Below w2.heap.size w2 wr) (fun _ s16 _ => Y.length - (intOf s16).toNat)
  case atStart => exact ⟨0, rfl, by omega, Below.refl _ _⟩
  case round =>
    obtain ⟨k, rfl, hk, hb⟩ := hrel
    have hsz := hb.size
    by_cases hlt : k < Y.length
    · obtain ⟨b, o, hA, hbb, h1, h2⟩ := (HRY.out.below hb (Nat.le_refl _)).at_ k hlt
      subst hA
      have hm := HY.out.1 _ (Hp.mem_g hlt)
      obtain ⟨m, hm2⟩ : ∃ m : Nat, (g Y k).2 = (m : Int) := ⟨(g Y k).2.toNat, by omega⟩
      obtain ⟨x1, hx1⟩ : ∃ x1, (g Y k).1 = x1 := ⟨_, rfl⟩
      rw [hm2, hx1, Int.toNat_natCast] at hm
      rw [hx1] at h1
      rw [hm2] at h2
      have hmx : m < x.length := by omega
      obtain ⟨bx, ox, hAx, hbx, hc1⟩ := ((HR.out.below HB2.out (Nat.le_refl _)).below hb (by have := HB2.out.size; omega)).atN m hmx
      subst hAx
      rw [hm.2.2] at hc1
      have g1 : decide ((m : Int) < 0) = false := decide_eq_false (by omega)
      have g2 : decide (x.length ≤ m) = false := decide_eq_false (by omega)
      have g3 : (0 : Int) ≤ (m : Int) := by omega
      have g4 : (m : Int) < (x.length : Int) := by omega
      have HB3 := Lib.hid (hb.alloc hsz (.cells #[.int .i64 x1, .int .i64 (m : Int)] 34))
      rcases Nat.eq_zero_or_pos k with hk0 | hk0
      · have k1 : decide (0 < k) = false := decide_eq_false (by omega)
        have k2 : decide ((0 : Int) < (k : Int)) = false := decide_eq_false (by omega)
        have k3 : k ≤ 0 := by omega
        clear hm hb hm2 hx1 hk0
        go_wp2_with fail
        go_quiet (fail)
        go_wp2_with fail
        go_quiet (fail)
        go_wp2
        go_roundw
        case rel => exact ⟨k + 1, by go_num, by omega, below_drewN HB3.out _⟩
        case measure => simp [intOf]; omega
      · obtain ⟨j, rfl⟩ : ∃ j, k = j + 1 := ⟨k - 1, by omega⟩
        obtain ⟨b2, o2, hA2, _, p1, p2⟩ := (HRY.out.below hb (Nat.le_refl _)).at_ j (by omega)
        injection hA2 with hA2
        injection hA2 with e1 e2 _
        subst e1
        subst e2
        obtain ⟨n1, n2⟩ := HY.out.2 j hlt
        rw [hm2, hx1] at n2
        rw [hx1] at n1
        obtain ⟨y1, hy1⟩ : ∃ y1, (g Y j).1 = y1 := ⟨_, rfl⟩
        obtain ⟨y2, hy2⟩ : ∃ y2, (g Y j).2 = y2 := ⟨_, rfl⟩
        rw [hy1] at p1 n1 n2
        rw [hy2] at p2 n2
        have i1 : decide (x1 < y1) = false := decide_eq_false (by omega)
        have hwr : IntKind.i64.wrap ((j : Int) + 1 - 1) = (j : Int) := by rw [show ((j : Int) + 1 - 1) = (j : Int) by omega]; exact IntWalk.i64_in _ (by omega)
        have hj0 : (0 : Int) ≤ (j : Int) := by omega
        have hj1 : (j : Int) < (Y.length : Int) := by omega
        by_cases hxy : x1 = y1
        · have i2 : decide ((m : Int) ≤ y2) = false := decide_eq_false (by omega)
          subst hxy
          clear hm hb n1 n2 hy1 hy2 hm2 hx1
          go_wp2_with fail
          go_quiet (fail)
          go_wp2_with fail
          go_quiet (fail)
          go_wp2
          go_roundw
          case rel => exact ⟨j + 1 + 1, by go_num, by omega, below_drewN HB3.out _⟩
          case measure => simp [intOf]; omega
        · have i2 : (x1 == y1) = false := by simpa using hxy
          clear hm hb n1 n2 hy1 hy2 hm2 hx1 hxy
          go_wp2_with fail
          go_quiet (fail)
          go_wp2_with fail
          go_quiet (fail)
          go_wp2
          go_roundw
          case rel => exact ⟨j + 1 + 1, by go_num, by omega, below_drewN HB3.out _⟩
          case measure => simp [intOf]; omega
    · go_wp2
      go_ret
      exact ⟨rfl, bnext HB2.out hb⟩

theorem contract (H : Type) (enc : TypeId × Value → H) (W : World) (base : Nat) (args : Array Value) (ds gs : List (DataW H)) (before : List MemPlace)
    (hval : ∀ (j : Nat) t v, Try.f7.params[j]? = some t → args[j]? = some v → Value.okWide Try.prog W .any base t v)
    (hW : DataW.Whole enc Try.prog Try.f7.params.toList Rows.fnQueueStableSpec.vars false W args.toList ds gs before)
    (hsz : (DataW.weightsEach Try.prog (Try.f7.params.toList ++ Rows.fnQueueStableSpec.plain.varTypes Try.prog) (ds ++ gs)).all (· ≤ reachBytes) = true)
    (hk : Rows.uptoSmall H (ds ++ gs) = true) :
    Calls Try.prog 7 args W fun e W' => ∃ v, e = .returned v ∧ Rows.fnQueueStableSpec.post enc Try.prog Try.f7 false true false false W args v W' := by
  have hW' := hW
  obtain ⟨p, q, hA0, hV, rfl, _, _⟩ := hW
  have hA : DataW.TrodAll enc Try.prog W 0 (fun _ => true) true Try.f7.params.toList args.toList ds p := hA0
  rw [Try.params7] at hA hval hsz
  obtain ⟨v0, d0, rfl, rfl, h0⟩ := trodAll_one hA
  obtain ⟨rfl, rfl⟩ := trodVars_none hV
  obtain ⟨A0, c0, l0, rfl, hr0, hn0, hc0⟩ := open_intslU (hval 0 38 v0 rfl rfl) h0 (fun elems spare he => by
    have := sized_slice hsz (j := 0) (t := 38) (e := 3) rfl (by rw [he]; rfl) Try.underlying38
    rw [bytes_int] at this
    exact this)
  have hk2 := of_decide_eq_true hk
  simp only [List.append_nil, Rows.uptoBulkAll] at hk2
  have hcall : Calls Try.prog 7 #[.slice A0 l0.length c0] W (Gives W (.bool true)) := walk W A0 c0 l0 hr0 hn0 (by omega)
  refine hcall.mono fun e W' ⟨he, hb⟩ => ⟨_, he, ?_⟩
  exact law_post hW' rfl rfl rfl rfl rfl (by rw [Try.params7]; exact of_decide_eq_true (by kernel_rfl)) hb

set_option maxRecDepth 100000 in
theorem lifted (os : Os) (started : os.Started) (H : Type) (enc : TypeId × Value → H) (F : Stop.Interp) :
    ReturnsInHanded {} Try.checked os 7 .any ((Rows.OpenSpec.upto Rows.fnQueueStableSpec).pre6 enc Try.prog Try.f7 Rows.fnQueueStableUptoRow.domain false) (((Rows.OpenSpec.upto Rows.fnQueueStableSpec).at F).post enc Try.prog Try.f7 false true false false) := by
  refine returnsInHanded_of_cond_sized (C := Try.checked) (s := Rows.OpenSpec.upto Rows.fnQueueStableSpec) (k := Rows.uptoSmall) rfl own started (by kernel_rfl) Try.func7
    (OpenSpec.witness (enc := enc) (C := Try.checked) (s := Rows.OpenSpec.upto Rows.fnQueueStableSpec) (k := Rows.uptoSmall) rfl false ⟨#[], #[.slice none 0 0], []⟩ 8 (by kernel_rfl) (by kernel_rfl) (by kernel_rfl)
      (x := ([.nil], [], [])) (by kernel_rfl) rfl (by kernel_rfl)) ?_
  intro W base args ds gs before hval hW _ hk hsz _
  exact contract H enc W base args ds gs before hval hW hsz hk

theorem proved : Rows.FnQueueStableUptoSaid :=
  OpenClaim.holds_of_cond 7 Try.f7 rfl rfl rfl rfl rfl rfl rfl ⟨rfl, rfl, rfl, rfl, rfl⟩ rfl rfl rfl rfl rfl (by kernel_rfl) Try.func7 (by kernel_rfl)
    (of_decide_eq_true (by kernel_rfl)) (by unfold Func.isWrapper; first | (rw [if_pos (by decide +kernel)]; kernel_rfl) | (rw [if_neg (by decide +kernel)]; exact ⟨rfl, rfl⟩))
    (fun os started H enc _ F => lifted os started H enc F)
end Go.Proofs.Ytpjdpcpcfcohiaa.fnQueueStable
