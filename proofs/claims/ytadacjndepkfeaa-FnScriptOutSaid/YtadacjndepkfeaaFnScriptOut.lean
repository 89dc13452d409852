/-
  FnScriptOut returns true for every list of items and every script. Condition: the reach of a slice that every statement bears.
-/
import Derived.Test.YtadacjndepkfeaaQPlace
import Derived.Test.YtadacjndepkfeaaOpenS
namespace Go.Proofs.Ytadacjndepkfeaa.fnScriptOut
open Go.ChangeShapes Go.WideShapes Go.ChangeAt Go.RowKit Go.Shelf Go.Deep Go.Joins
open Hp (g swp Ev St plc)

theorem outs_next {L : List It} {ss : List St} {S : List (List It)} {O X Wk : List It} {k : Nat} {s : St} (h : RunF L ss S O) (hk : k < ss.length) (hX : X = g S k) (hs : g ss k = s) (hW : Wk = outsI L (ss.take k)) :
    outsI L (ss.take (k + 1)) = Wk ++ (stpI s X).2 := by
  rw [outsI_succ ss L k hk, hs, hW, hX, h.aft k (by omega)]

set_option maxHeartbeats 2000000 in
set_option maxRecDepth 100000 in
theorem walk (w : World) (A : Option Addr) (c : Nat) (l : List It) (As : Option Addr) (cs : Nat) (ss : List St) (hr : Rd w A (cls l)) (hn : l.length * 16 ≤ 140737488351232) (hrs : Rd w As (clsT ss)) (hns : ss.length * 32 ≤ 140737488351232) :
    Calls Try.prog 12 #[.slice A l.length c, .slice As ss.length cs] w (Gives w (.bool true)) := by
  have hln : l.length + ss.length + 1 ≤ 13194139537408 := by omega
  have HR := Lib.hid hr
  have HRS := Lib.hid hrs
  clear hr hrs
  go_enter Try.func12, Try.ntmps12
  go_wp2_with fail
  refine (toItems_any _ A _ c l rfl (HR.out.below (Below.refl w.heap.size w) (Nat.le_refl _)) (m16 (by omega))).mono ?_
  rintro e w1 ⟨A1, c1, rfl, ho1, hb1⟩
  have HRD1 := Lib.hid (Rd.of_own ho1)
  have HB1 := Lib.hid (bnext (Below.refl w.heap.size w) hb1)
  clear ho1 hb1
  go_wp2_with fail
  refine (toStepS_any _ As _ cs ss rfl (HRS.out.below HB1.out (Nat.le_refl _)) (by omega)).mono ?_
  rintro e w2 ⟨A2, c2, rfl, ho2, hb2⟩
  have HRD2 := Lib.hid (Rd.of_own ho2)
  have HRI2 := Lib.hid (HRD1.out.below hb2 (Nat.le_refl _))
  have HB2 := Lib.hid (bnext HB1.out hb2)
  clear ho2 hb2
  go_wp2_with fail
  refine (run_law w2 A1 A2 _ c1 _ c2 l ss rfl rfl HRI2.out HRD2.out hln (by omega)).mono ?_
  rintro e w3 ⟨S, O, A3, c3, Ao, co, vs, hF, rfl, hrow, hss, hout, hb3⟩
  have HF := Lib.hid hF
  have hS1 : ((S.length : Int) == (ss.length : Int) + 1) = true := by rw [hF.len]; simp
  have hS2 : ((S.length : Int) != (ss.length : Int) + 1) = false := by rw [hF.len]; simp
  have hSL : S.length ≤ ss.length + 1 := Nat.le_of_eq hF.len
  have hSG : ss.length + 1 ≤ S.length := Nat.le_of_eq hF.len.symm
  have hOL : O.length ≤ ss.length := hF.outl
  have HROW := Lib.hid hrow
  have HSS := Lib.hid hss
  have HOUT := Lib.hid hout
  have HB3 := Lib.hid (bnext HB2.out hb3)
  clear hF hrow hss hout hb3
  go_wp2_with fail
  go_loopw [7, 27] (fun s7 s27 wr => ∃ (k : Nat) (Aw : Option Addr) (cw : Nat) (Wk : List It), s27 = .int .i64 (k : Int) ∧ k ≤ ss.length ∧ s7 = .slice Aw Wk.length cw ∧ Wk.length ≤ k ∧ Aside (wr.ownsRow w3.heap.size 36 2 (.slice Aw Wk.length cw) Wk.length (cls Wk)) ∧ Below w3.heap.size w3 wr ∧ Hid (Wk = outsI (Hp.init ltK l) (ss.take k)))
    (fun _ s27 _ => ss.length - (intOf s27).toNat)
  case atStart => exact ⟨0, none, 0, [], rfl, by omega, rfl, by simp, World.ownsRow_nil _ _ _ _, Below.refl _ _, rfl⟩
  case round =>
    obtain ⟨k, Aw, cw, Wk, rfl, hk, rfl, hWl, hown, hbw, HWK⟩ := hrel
    have HBW := Lib.hid hbw
    have hsz := hbw.size
    clear hbw
    by_cases hlt : k < ss.length
    · obtain ⟨b, o, hAs, hbb, h1, h2, h3, h4⟩ := (HRS.out.below (bnext HB3.out HBW.out) (Nat.le_refl _)).atT k hlt
      subst hAs
      obtain ⟨bt, ot, Ak, ck, hA, hbt, hcell, hrk⟩ := st_at (HROW.out.below HBW.out (Nat.le_refl _)) (HSS.out.below HBW.out) k (by omega)
      subst hA
      obtain ⟨⟨q, a, kk, t⟩, hs⟩ : ∃ s, g ss k = s := ⟨_, rfl⟩
      obtain ⟨X, hX⟩ : ∃ X, X = g S k := ⟨_, rfl⟩
      have hXl : X.length ≤ l.length + ss.length := by
        have := HF.out.size k (by omega)
        rw [← hX] at this
        simpa using this
      have HGS := Lib.hid hs
      rw [hs] at h1 h2 h3 h4
      rw [← hX] at hcell hrk
      have HX := Lib.hid hX
      have HRK := Lib.hid hrk
      clear hs hX hrk
      have HNX := Lib.hid (outs_next HF.out hlt HX.out HGS.out HWK.out)
      have hb1 := HBW.out.alloc hsz (.cells #[.int .i64 q, .int .i64 a, .int .i64 kk, .int .i64 t] 34)
      have HB1 := Lib.hid hb1
      clear hb1
      by_cases hX0 : X.length = 0
      · have hq : ((X.length : Int) == 0) = true := by rw [hX0]; rfl
        have HE := Lib.hid ((HNX.out).trans (by rw [stp_out, if_pos hX0, List.append_nil] : _ = Wk))
        clear hX0
        go_wp2
        go_roundw
        case rel => exact ⟨k + 1, Aw, cw, Wk, by go_num, by omega, rfl, by omega, hown.out.alloc _, HB1.out, HE.out.symm⟩
        case measure => simp [intOf]; omega
      · have hq : ((X.length : Int) == 0) = false := by simp; intro e; rw [e] at hX0; exact hX0 rfl
        have hpos : 0 < X.length := by omega
        by_cases hq2 : q = 2
        · subst hq2
          have HE := Lib.hid ((HNX.out).trans (by rw [stp_out, if_neg hX0, if_pos rfl] : _ = Wk ++ [g X 0]))
          obtain ⟨bx, ox, hAk, hbx, cx1, cx2⟩ := HRK.out.at_ 0 hpos
          subst hAk
          obtain ⟨⟨y1, y2⟩, hy⟩ : ∃ y, g X 0 = y := ⟨_, rfl⟩
          rw [hy] at cx1 cx2
          have HY := Lib.hid hy
          have HLE := Lib.hid (show (Wk.length + 1) * 16 ≤ 211106232598528 from m16 (by omega))
          rw [show ox + 0 * 2 = ox by omega] at cx1 cx2
          have hzz := heap_alloc_new (wr.alloc (.cells #[.int .i64 2, .int .i64 a, .int .i64 kk, .int .i64 t] 34)) (.cells #[.int .i64 y1, .int .i64 y2] 36)
          rw [heap_size_alloc] at hzz
          have HZZ := Lib.hid hzz
          have HLB := Lib.hid (show w3.heap.size ≤ ((wr.alloc (.cells #[.int .i64 2, .int .i64 a, .int .i64 kk, .int .i64 t] 34)).alloc (.cells #[.int .i64 y1, .int .i64 y2] 36)).heap.size by simp; omega)
          clear hy hX0 hzz
          go_wp2_with (at_builtin; refine wpList_append_item rfl _ _ rfl _ w3.heap.size Wk (y1, y2) (wr.heap.size + 1) rfl rfl ((hown.out.alloc _).alloc _) HZZ.out HLE.out HLB.out ?_)
          intro A6 c6 w6 ho6 hg6
          have HB6 := Lib.hid ((HB1.out.alloc (by simp; omega) _).grown hg6 (by simp; omega) (fun kk2 hkk => (hown.out.lt kk2 hkk).1))
          have HO6 := Lib.hid ho6
          clear ho6 hg6 cx1 cx2 hcell h1 h2 h3 h4
          go_wp2
          go_roundw
          case rel => exact ⟨k + 1, A6, c6, Wk ++ [(y1, y2)], by go_num, by omega, by rw [List.length_append]; rfl, by rw [List.length_append]; simp; omega, by rw [List.length_append]; exact HO6.out, HB6.out, by rw [HE.out, HY.out]; rfl⟩
          case measure => simp [intOf]; omega
        · have hk2 : (q == 2) = false := by simpa using hq2
          by_cases hq3 : q = 3
          · subst hq3
            have HE := Lib.hid ((HNX.out).trans (by rw [stp_out, if_neg hX0, if_neg hq2, if_pos rfl] : _ = Wk ++ [g X (plc a X.length)]))
            obtain ⟨p, hp⟩ : ∃ p, p = plc a X.length := ⟨_, rfl⟩
            have hpl : p < X.length := by rw [hp]; exact Hp.plc_lt a hpos
            have HPC := Lib.hid (qPlace_let a X.length p hp hpos (by omega))
            rw [← hp] at HE
            obtain ⟨bx, ox, hAk, hbx, cx1, cx2⟩ := HRK.out.at_ p hpl
            subst hAk
            obtain ⟨⟨y1, y2⟩, hy⟩ : ∃ y, g X p = y := ⟨_, rfl⟩
            rw [hy] at cx1 cx2
            have HY := Lib.hid hy
            have HLE := Lib.hid (show (Wk.length + 1) * 16 ≤ 211106232598528 from m16 (by omega))
            have hzz := heap_alloc_new (wr.alloc (.cells #[.int .i64 3, .int .i64 a, .int .i64 kk, .int .i64 t] 34)) (.cells #[.int .i64 y1, .int .i64 y2] 36)
            rw [heap_size_alloc] at hzz
            have HZZ := Lib.hid hzz
            have HLB := Lib.hid (show w3.heap.size ≤ ((wr.alloc (.cells #[.int .i64 3, .int .i64 a, .int .i64 kk, .int .i64 t] 34)).alloc (.cells #[.int .i64 y1, .int .i64 y2] 36)).heap.size by simp; omega)
            clear hy hX0 hq2 hp hzz
            go_wp2_with (first
              | (go_at_call 23; refine (HPC.out _).mono ?_; rintro e w' ⟨rfl, rfl⟩)
              | (at_builtin; refine wpList_append_item rfl _ _ rfl _ w3.heap.size Wk (y1, y2) (wr.heap.size + 1) rfl rfl ((hown.out.alloc _).alloc _) HZZ.out HLE.out HLB.out ?_))
            intro A6 c6 w6 ho6 hg6
            have HB6 := Lib.hid ((HB1.out.alloc (by simp; omega) _).grown hg6 (by simp; omega) (fun kk2 hkk => (hown.out.lt kk2 hkk).1))
            have HO6 := Lib.hid ho6
            clear ho6 hg6 cx1 cx2 hcell h1 h2 h3 h4
            go_wp2
            go_roundw
            case rel => exact ⟨k + 1, A6, c6, Wk ++ [(y1, y2)], by go_num, by omega, by rw [List.length_append]; rfl, by rw [List.length_append]; simp; omega, by rw [List.length_append]; exact HO6.out, HB6.out, by rw [HE.out, HY.out]; rfl⟩
            case measure => simp [intOf]; omega
          · have hk3 : (q == 3) = false := by simpa using hq3
            have HE := Lib.hid ((HNX.out).trans (by rw [stp_out, if_neg hX0, if_neg hq2, if_neg hq3, List.append_nil] : _ = Wk))
            clear hX0 hq2 hq3
            go_wp2
            go_roundw
            case rel => exact ⟨k + 1, Aw, cw, Wk, by go_num, by omega, rfl, by omega, hown.out.alloc _, HB1.out, HE.out.symm⟩
            case measure => simp [intOf]; omega
    · have hkl : k = ss.length := by omega
      have hWO : Wk = O := by rw [HWK.out, HF.out.eqO, hkl, List.take_of_length_le (Nat.le_refl _)]
      have HWO := Lib.hid hWO
      have HRO := Lib.hid ((Rd.of_own HOUT.out).below HBW.out (Nat.le_refl _))
      have HRW := Lib.hid (Rd.of_own hown.out)
      have HLO := Lib.hid (show O.length * 16 ≤ 211106232598528 from m16 (by omega))
      clear hkl hWO
      go_wp2_with fail
      refine (sameItems_eq wr Ao Aw _ _ co cw O rfl (by rw [HWO.out]) HRO.out (by have := HRW.out; rwa [HWO.out] at this) HLO.out).mono ?_
      rintro e w7 ⟨rfl, hb7⟩
      have HB7 := Lib.hid (bnext (bnext HB3.out HBW.out) hb7)
      clear hb7
      go_wp2
      go_ret
      exact ⟨rfl, HB7.out⟩

theorem contract (H : Type) (enc : TypeId × Value → H) (W : World) (base : Nat) (args : Array Value) (ds gs : List (DataW H)) (before : List MemPlace)
    (hval : ∀ (j : Nat) t v, Try.f12.params[j]? = some t → args[j]? = some v → Value.okWide Try.prog W .any base t v)
    (hW : DataW.Whole enc Try.prog Try.f12.params.toList Rows.fnScriptOutSpec.vars false W args.toList ds gs before)
    (hsz : (DataW.weightsEach Try.prog (Try.f12.params.toList ++ Rows.fnScriptOutSpec.plain.varTypes Try.prog) (ds ++ gs)).all (· ≤ reachBytes) = true) :
    Calls Try.prog 12 args W fun e W' => ∃ v, e = .returned v ∧ Rows.fnScriptOutSpec.post enc Try.prog Try.f12 false true false false W args v W' := by
  have hW' := hW
  obtain ⟨p, q, hA0, hV, rfl, _, _⟩ := hW
  have hA : DataW.TrodAll enc Try.prog W 0 (fun _ => true) true Try.f12.params.toList args.toList ds p := hA0
  rw [Try.params12] at hA hval hsz
  obtain ⟨v0, v1, d0, d1, p0, p1, rfl, rfl, rfl, h0, h1⟩ := trodAll_two hA
  obtain ⟨rfl, rfl⟩ := trodVars_none hV
  obtain ⟨A0, c0, l0, rfl, hr0, hn0⟩ := open_items (hval 0 22 v0 rfl rfl) h0 (fun elems spare he => by
    have := sized_slice hsz (j := 0) (t := 22) (e := 55) rfl (by rw [he]; rfl) Try.underlying22
    rw [bytes_lawItem] at this
    exact this)
  obtain ⟨A1, c1, l1, rfl, hr1, hn1⟩ := open_steps (hval 1 23 v1 rfl rfl) h1 (fun elems spare he => by
    have := sized_slice hsz (j := 1) (t := 23) (e := 34) rfl (by rw [he]; rfl) Try.underlying23
    rw [bytes_lawStep] at this
    exact this)
  have hcall : Calls Try.prog 12 #[.slice A0 l0.length c0, .slice A1 l1.length c1] W (Gives W (.bool true)) := walk W A0 c0 l0 A1 c1 l1 hr0 hn0 hr1 hn1
  refine hcall.mono fun e W' ⟨he, hb⟩ => ⟨_, he, ?_⟩
  exact law_post hW' rfl rfl rfl rfl rfl (by rw [Try.params12]; exact of_decide_eq_true (by kernel_rfl)) hb

set_option maxRecDepth 100000 in
theorem lifted (os : Os) (started : os.Started) (H : Type) (enc : TypeId × Value → H) :
    ReturnsInHanded {} Try.checked os 12 .any (Rows.fnScriptOutSpec.pre6 enc Try.prog Try.f12 Rows.fnScriptOutRow.domain false) (Rows.fnScriptOutSpec.post enc Try.prog Try.f12 false true false false) := by
  refine returnsInHanded_of_change_sized (C := Try.checked) own started (by kernel_rfl) Try.func12
    (ChangeSpec.witness6 (enc := enc) (C := Try.checked) false ⟨#[], #[.slice none 0 0, .slice none 0 0], []⟩ 8 (by kernel_rfl) (by kernel_rfl) (by kernel_rfl) (by kernel_rfl)) ?_
  intro W base args ds gs before hval hW _ hsz _
  exact contract H enc W base args ds gs before hval hW hsz

theorem proved : Rows.FnScriptOutSaid :=
  OpenClaim.holds_of_wide 12 Try.f12 rfl rfl rfl rfl rfl rfl rfl ⟨rfl, rfl, rfl, rfl, rfl⟩ rfl rfl rfl rfl rfl (by kernel_rfl) Try.func12 (by kernel_rfl)
    (of_decide_eq_true (by kernel_rfl)) (by unfold Func.isWrapper; first | (rw [if_pos (by decide +kernel)]; kernel_rfl) | (rw [if_neg (by decide +kernel)]; exact ⟨rfl, rfl⟩))
    (fun os started H enc _ => lifted os started H enc)
end Go.Proofs.Ytadacjndepkfeaa.fnScriptOut
