/-
  FnScriptKept returns true for every list of items and every script. Condition: the reach of a slice that every statement bears.
-/
import Derived.Test.YtadacjndepkfeaaLawRun
import Derived.Test.YtadacjndepkfeaaOpenS
import Derived.Test.YtadacjndepkfeaaAppend
namespace Go.Proofs.Ytadacjndepkfeaa.fnScriptKept
open Go.ChangeShapes Go.WideShapes Go.ChangeAt Go.RowKit Go.Shelf Go.Deep Go.Joins
open Hp (g swp Ev St plc)

/-- What some steps push. -/
def pushed (ss : List St) : List It := ss.flatMap fun s => if s.1 = 1 then [(s.2.2.1, s.2.2.2)] else []
theorem pushed_snoc (ss : List St) (s : St) : pushed (ss ++ [s]) = pushed ss ++ (if s.1 = 1 then [(s.2.2.1, s.2.2.2)] else []) := by simp [pushed]
theorem pushed_length (ss : List St) : (pushed ss).length ≤ ss.length := by
  induction ss with
  | nil => simp [pushed]
  | cons s ss ih =>
    have e : pushed (s :: ss) = (if s.1 = 1 then [(s.2.2.1, s.2.2.2)] else []) ++ pushed ss := by simp [pushed]
    rw [e, List.length_append, List.length_cons]
    split
    · simp; omega
    · simp; omega
theorem kept_one (s : St) (X : List It) (h4 : ¬ s.1 = 4) : ((stpI s X).2 ++ (stpI s X).1).Perm (X ++ (if s.1 = 1 then [(s.2.2.1, s.2.2.2)] else [])) := by
  unfold stpI Hp.stp
  by_cases h5 : s.1 = 5
  · rw [if_pos h5, if_neg (by omega), List.append_nil]
    exact Hp.perm_init ltK X
  rw [if_neg h5]
  by_cases h1 : s.1 = 1
  · rw [if_pos h1, if_pos h1]
    exact Hp.perm_push ltK X _
  rw [if_neg h1, if_neg h1, List.append_nil]
  by_cases h0 : X.length = 0
  · rw [if_pos h0]; exact List.Perm.refl _
  rw [if_neg h0]
  have hpos : 0 < X.length := by omega
  by_cases h2 : s.1 = 2
  · rw [if_pos h2]
    have h := Hp.perm_popD ltK X hpos
    rw [← Hp.popD_split ltK X hpos] at h
    exact List.perm_append_comm.trans h
  rw [if_neg h2]
  by_cases h3 : s.1 = 3
  · rw [if_pos h3]
    have hp := Hp.plc_lt s.2.1 hpos
    have h := Hp.perm_rem ltK X _ hp
    rw [← Hp.rem_split ltK X _ hp] at h
    exact List.perm_append_comm.trans h
  rw [if_neg h3, if_neg h4]
  exact List.Perm.refl _
theorem kept_all (ss : List St) (X : List It) (h : ∀ s ∈ ss, ¬ s.1 = 4) : (outsI X ss ++ afterI X ss).Perm (X ++ pushed ss) := by
  induction ss generalizing X with
  | nil => simp [outsI, afterI, Hp.outs, Hp.after, pushed]
  | cons s ss ih =>
    have h1 := ih (stpI s X).1 (fun s' hs' => h s' (List.mem_cons_of_mem _ hs'))
    have h2 := kept_one s X (h s (by simp))
    have e : pushed (s :: ss) = (if s.1 = 1 then [(s.2.2.1, s.2.2.2)] else []) ++ pushed ss := by simp [pushed]
    have eo : outsI X (s :: ss) = (stpI s X).2 ++ outsI (stpI s X).1 ss := rfl
    have ea : afterI X (s :: ss) = afterI (stpI s X).1 ss := rfl
    rw [e, eo, ea, List.append_assoc, ← List.append_assoc X]
    exact (List.Perm.append_left _ h1).trans (by rw [← List.append_assoc]; exact List.Perm.append_right _ h2)
theorem kept_fin {l : List It} {ss : List St} {S : List (List It)} {O : List It} (h : RunF (Hp.init ltK l) ss S O) (h4 : ∀ j, j < ss.length → ¬ (g ss j).1 = 4) : (O ++ g S ss.length).Perm (l ++ pushed ss) := by
  rw [h.eqO, h.aft _ (Nat.le_refl _), List.take_of_length_le (Nat.le_refl _)]
  refine (kept_all ss _ ?_).trans (List.Perm.append_right _ (Hp.perm_init ltK l))
  intro s hs
  obtain ⟨j, hj, e⟩ := Hp.g_of_mem hs
  rw [← e]
  exact h4 j hj

set_option maxHeartbeats 2000000 in
set_option maxRecDepth 100000 in
theorem walk (w : World) (A : Option Addr) (c : Nat) (l : List It) (As : Option Addr) (cs : Nat) (ss : List St) (hr : Rd w A (cls l)) (hn : l.length * 16 ≤ 140737488351232) (hrs : Rd w As (clsT ss)) (hns : ss.length * 32 ≤ 140737488351232) :
    Calls Try.prog 9 #[.slice A l.length c, .slice As ss.length cs] w (Gives w (.bool true)) := by
  have hln : l.length + ss.length + 1 ≤ 13194139537408 := by omega
  have HR := Lib.hid hr
  have HRS := Lib.hid hrs
  clear hr hrs
  have hn1 : l.length * 16 ≤ 211106232598528 := m16 (by omega)
  go_enter Try.func9, Try.ntmps9
  go_wp2_with fail
  refine (toItems_any _ A _ c l rfl HR.out hn1).mono ?_
  rintro e w0 ⟨A0, c0, rfl, ho0, hb0⟩
  have HRD0 := Lib.hid (Rd.of_own ho0)
  have HB0 := Lib.hid hb0
  clear ho0 hb0
  go_wp2_with fail
  go_loopw [5, 14] (fun s5 s14 wr => ∃ (k : Nat) (Aw : Option Addr) (cw : Nat) (Wk : List It), s14 = .int .i64 (k : Int) ∧ k ≤ ss.length ∧ s5 = .slice Aw Wk.length cw ∧ Wk.length ≤ l.length + k ∧ Hid (Rd wr Aw (cls Wk)) ∧ Below w.heap.size w wr ∧ Hid (Wk = l ++ pushed (ss.take k)) ∧ Hid (∀ j, j < k → ¬ (g ss j).1 = 4))
    (fun _ s14 _ => ss.length - (intOf s14).toNat)
  case atStart => exact ⟨0, A0, c0, l, rfl, by omega, rfl, by omega, HRD0, HB0.out, by simp [Hid, pushed], fun j hj => by omega⟩
  case round =>
    obtain ⟨k, Aw, cw, Wk, rfl, hk, rfl, hWl, HRW, hbw, HWK, HNF⟩ := hrel
    have HBW := Lib.hid hbw
    have hsz := hbw.size
    clear hbw HRD0 HB0
    by_cases hlt : k < ss.length
    · obtain ⟨b, o, hAs, hbb, h1, h2, h3, h4⟩ := (HRS.out.below HBW.out (Nat.le_refl _)).atT k hlt
      subst hAs
      have htk := Hp.take_succ_st ss k hlt
      obtain ⟨⟨q, a, kk, t⟩, hs⟩ : ∃ s, g ss k = s := ⟨_, rfl⟩
      rw [hs] at h1 h2 h3 h4 htk
      have HGS := Lib.hid hs
      have HTK := Lib.hid htk
      have HB1 := Lib.hid (HBW.out.alloc hsz (.cells #[.int .i64 q, .int .i64 a, .int .i64 kk, .int .i64 t] 34))
      have HRW1 := Lib.hid (HRW.out.below ((Below.refl _ _).alloc (Nat.le_refl _) (.cells #[.int .i64 q, .int .i64 a, .int .i64 kk, .int .i64 t] 34)) (Nat.le_refl _))
      clear hs htk
      by_cases hq4 : q = 4
      · subst hq4
        go_wp2
        go_ret
        exact ⟨rfl, HB1.out⟩
      have hk4 : (q == 4) = false := by simpa using hq4
      have HNF1 : Hid (∀ j, j < k + 1 → ¬ (g ss j).1 = 4) := by
        intro j hj
        by_cases hjk : j = k
        · rw [hjk, HGS.out]; exact hq4
        · exact HNF.out j (by omega)
      clear hq4
      by_cases hq1 : q = 1
      · subst hq1
        have HE := Lib.hid (show Wk ++ [(kk, t)] = l ++ pushed (ss.take (k + 1)) by rw [HTK.out, pushed_snoc, HWK.out, List.append_assoc]; rfl)
        obtain ⟨WL, hWL⟩ : ∃ WL, WL = Wk ++ [(kk, t)] := ⟨_, rfl⟩
        have hwl : WL.length ≤ l.length + (k + 1) := by rw [hWL, List.length_append]; exact (by simp; omega)
        have hwn : (Wk.length + 1) * 16 ≤ 211106232598528 := m16 (by omega)
        rw [← hWL] at HE
        go_wp2_with fail
        refine (withItem_any _ Aw _ cw Wk (kk, t) rfl HRW1.out hwn).mono ?_
        rw [← hWL]
        clear hWL
        rintro e w6 ⟨A6, c6, rfl, ho6, hb6⟩
        have HRW6 := Lib.hid (Rd.of_own ho6)
        have HB6 := Lib.hid (bnext HB1.out hb6)
        clear ho6 hb6 h1 h2 h3 h4
        go_wp2
        go_roundw
        case rel => exact ⟨k + 1, A6, c6, WL, by go_num, by omega, rfl, hwl, HRW6, HB6.out, HE, HNF1⟩
        case measure => simp [intOf]; omega
      have hk1 : (q == 1) = false := by simpa using hq1
      have HE := Lib.hid (show Wk = l ++ pushed (ss.take (k + 1)) by rw [HTK.out, pushed_snoc, if_neg hq1, List.append_nil, HWK.out])
      clear hq1
      go_wp2
      go_roundw
      case rel => exact ⟨k + 1, Aw, cw, Wk, by go_num, by omega, rfl, by omega, HRW1, HB1.out, HE, HNF1⟩
      case measure => simp [intOf]; omega
    · have hkl : k = ss.length := by omega
      have HWE := Lib.hid (show Wk = l ++ pushed ss by have := HWK.out; rwa [hkl, List.take_of_length_le (Nat.le_refl _)] at this)
      have HN4 := Lib.hid (show ∀ j, j < ss.length → ¬ (g ss j).1 = 4 by have := HNF.out; rwa [hkl] at this)
      clear hkl HWK HNF
      go_wp2_with fail
      refine (toItems_any _ A _ c l rfl (HR.out.below HBW.out (Nat.le_refl _)) (m16 (by omega))).mono ?_
      rintro e w1 ⟨A1, c1, rfl, ho1, hb1⟩
      have HRD1 := Lib.hid (Rd.of_own ho1)
      have HB1 := Lib.hid (bnext HBW.out hb1)
      have HQ1 := Lib.hid hb1
      clear ho1 hb1
      go_wp2_with fail
      refine (toStepS_any _ As _ cs ss rfl (HRS.out.below HB1.out (Nat.le_refl _)) (by omega)).mono ?_
      rintro e w2 ⟨A2, c2, rfl, ho2, hb2⟩
      have HRD2 := Lib.hid (Rd.of_own ho2)
      have HRI2 := Lib.hid (HRD1.out.below hb2 (Nat.le_refl _))
      have HB2 := Lib.hid (bnext HB1.out hb2)
      have HQ2 := Lib.hid (bnext HQ1.out hb2)
      clear ho2 hb2
      go_wp2_with fail
      refine (run_law w2 A1 A2 _ c1 _ c2 l ss rfl rfl HRI2.out HRD2.out hln (by omega)).mono ?_
      rintro e w3 ⟨S, O, A3, c3, Ao, co, vs, hF, rfl, hrow, hss, hout, hb3⟩
      have HF := Lib.hid hF
      have hS1 : ((S.length : Int) == (ss.length : Int) + 1) = true := by rw [hF.len]; simp
      have hS2 : ((S.length : Int) != (ss.length : Int) + 1) = false := by rw [hF.len]; simp
      have hSL : S.length ≤ ss.length + 1 := Nat.le_of_eq hF.len
      have hSG : ss.length + 1 ≤ S.length := Nat.le_of_eq hF.len.symm
      have hOL : O.length ≤ ss.length := hF.outl
      have HROW := Lib.hid hrow
      have HSS := Lib.hid hss
      have HOUT := Lib.hid hout
      have HB3 := Lib.hid (bnext HB2.out hb3)
      have HQ3 := Lib.hid (bnext HQ2.out hb3)
      clear hF hrow hss hout hb3
      have hpm := kept_fin HF.out HN4.out
      obtain ⟨bt, ot, Ak, ck, hA, hbt, hcell, hrk⟩ := st_at HROW.out HSS.out ss.length (by omega)
      subst hA
      obtain ⟨Z, hZ⟩ : ∃ Z, Z = g S ss.length := ⟨_, rfl⟩
      have hlen := hpm.length_eq
      rw [← HWE.out] at hpm hlen
      rw [← hZ] at hcell hrk hpm hlen
      rw [List.length_append] at hlen
      have HRK := Lib.hid hrk
      have HPM := Lib.hid hpm
      have HRW3 := Lib.hid (HRW.out.below HQ3.out (Nat.le_refl _))
      have hS0 : 0 < S.length := by omega
      have hS0' : (0 : Int) < (S.length : Int) := by omega
      have hS3 : (ss.length : Int) < (S.length : Int) := by omega
      have hS4 : (0 : Int) ≤ (ss.length : Int) := by omega
      have hzn : O.length + Z.length ≤ l.length + ss.length := by have h1 := hlen; have h2 := pushed_length ss; rw [HWE.out, List.length_append] at h1; omega
      have HZN := Lib.hid (show (O.length + Z.length) * 16 ≤ 211106232598528 from m16 (by omega))
      have hon : O.length * 16 ≤ 211106232598528 := m16 (by omega)
      have HLE := Lib.hid hlen
      clear hZ hrk hpm hlen
      go_wp2_with fail
      have hwrap : IntKind.i64.wrap ((S.length : Int) - 1) = (ss.length : Int) := by simp [IntKind.wrap, IntKind.bits, IntKind.signed]; omega
      go_region_held3 (fun w' => w'.cell? ⟨bt, ot + ss.length, none⟩ = some (.slice Ak Z.length ck))
        (first
          | exact kc0
          | exact kb0
          | exact ka0
          | go_keep)
        (first
          | (refine wanted_g (by rfl) (wp_copy_items (.const (.slice none 0 0)) (.tmp 44) rfl Ao O.length co O rfl (by simp [Act.eval]) (by simp [Act.eval]) ?_ ?_ ?_)
             · exact (Rd.of_own HOUT.out).below (Below.refl _ _).drew (Nat.le_refl _)
             · exact hon
             intro A4 c4 w4 ho4 hb4
             have ka0 := (hb4.cell (p := ⟨bt, ot + ss.length, none⟩) hbt).trans hcell
             have hz4 : bt < w4.heap.size := Nat.lt_of_lt_of_le hbt hb4.size
             have HB4 := Lib.hid (bnext (Below.refl w3.heap.size w3).drew hb4)
             have HO4 := Lib.hid ho4
             have hne4 : some bt ≠ (Value.slice A4 O.length c4).ownBlock := fun e => absurd hbt (Nat.not_lt.2 (ho4.lt _ e.symm).1)
             have HL4 := Lib.hid hb4.size)
          | (refine wanted_g (by rfl) (wp_append_its (.tmp 45) (.tmp 51) rfl w3.heap.size (.slice A4 O.length c4) O Z Ak ck (by simp [Act.eval]) (by simp [Act.eval]) ?_ ?_ ?_ ?_ ?_)
             · exact HO4.out
             · exact HRK.out.below HB4.out (Nat.le_refl _)
             · exact HZN.out
             · exact HL4.out
             intro A5 c5 w5 ho5 hg5
             have kb0 := hg5.cell ka0 hne4
             have hz5 : bt < w5.heap.size := Nat.lt_of_lt_of_le hz4 hg5.size
             have HB5 := Lib.hid (HB4.out.grown hg5 HB4.out.size (fun kk2 hkk => (HO4.out.lt kk2 hkk).1))
             have HO5 := Lib.hid ho5)
          | (go_at_call 31
             ((with_reducible refine (sameElements_perm _ A5 Aw _ _ c5 cw (O ++ Z) Wk ?_ rfl HPM.out ?_ ?_ ?_).mono ?_)
              · exact (List.length_append).symm
              · exact Rd.of_own HO5.out
              · exact HRW3.out.below HB5.out (Nat.le_refl _)
              · rw [List.length_append]; exact HZN.out
              rintro e w6 ⟨rfl, hb6⟩
              have kc0 := (hb6.cell (p := ⟨bt, ot + ss.length, none⟩) hz5).trans kb0)))
      have HB6 := Lib.hid (bnext (bnext HB3.out HB5.out) hb6)
      clear hb4 hb6 ka0 kb0 kc0 hcell hwrap hS0 hS0' ho4 ho5 hg5
      go_wp2
      go_ret
      exact ⟨rfl, HB6.out⟩

theorem contract (H : Type) (enc : TypeId × Value → H) (W : World) (base : Nat) (args : Array Value) (ds gs : List (DataW H)) (before : List MemPlace)
    (hval : ∀ (j : Nat) t v, Try.f9.params[j]? = some t → args[j]? = some v → Value.okWide Try.prog W .any base t v)
    (hW : DataW.Whole enc Try.prog Try.f9.params.toList Rows.fnScriptKeptSpec.vars false W args.toList ds gs before)
    (hsz : (DataW.weightsEach Try.prog (Try.f9.params.toList ++ Rows.fnScriptKeptSpec.plain.varTypes Try.prog) (ds ++ gs)).all (· ≤ reachBytes) = true) :
    Calls Try.prog 9 args W fun e W' => ∃ v, e = .returned v ∧ Rows.fnScriptKeptSpec.post enc Try.prog Try.f9 false true false false W args v W' := by
  have hW' := hW
  obtain ⟨p, q, hA0, hV, rfl, _, _⟩ := hW
  have hA : DataW.TrodAll enc Try.prog W 0 (fun _ => true) true Try.f9.params.toList args.toList ds p := hA0
  rw [Try.params9] at hA hval hsz
  obtain ⟨v0, v1, d0, d1, p0, p1, rfl, rfl, rfl, h0, h1⟩ := trodAll_two hA
  obtain ⟨rfl, rfl⟩ := trodVars_none hV
  obtain ⟨A0, c0, l0, rfl, hr0, hn0⟩ := open_items (hval 0 22 v0 rfl rfl) h0 (fun elems spare he => by
    have := sized_slice hsz (j := 0) (t := 22) (e := 55) rfl (by rw [he]; rfl) Try.underlying22
    rw [bytes_lawItem] at this
    exact this)
  obtain ⟨A1, c1, l1, rfl, hr1, hn1⟩ := open_steps (hval 1 23 v1 rfl rfl) h1 (fun elems spare he => by
    have := sized_slice hsz (j := 1) (t := 23) (e := 34) rfl (by rw [he]; rfl) Try.underlying23
    rw [bytes_lawStep] at this
    exact this)
  have hcall : Calls Try.prog 9 #[.slice A0 l0.length c0, .slice A1 l1.length c1] W (Gives W (.bool true)) := walk W A0 c0 l0 A1 c1 l1 hr0 hn0 hr1 hn1
  refine hcall.mono fun e W' ⟨he, hb⟩ => ⟨_, he, ?_⟩
  exact law_post hW' rfl rfl rfl rfl rfl (by rw [Try.params9]; exact of_decide_eq_true (by kernel_rfl)) hb

set_option maxRecDepth 100000 in
theorem lifted (os : Os) (started : os.Started) (H : Type) (enc : TypeId × Value → H) :
    ReturnsInHanded {} Try.checked os 9 .any (Rows.fnScriptKeptSpec.pre6 enc Try.prog Try.f9 Rows.fnScriptKeptRow.domain false) (Rows.fnScriptKeptSpec.post enc Try.prog Try.f9 false true false false) := by
  refine returnsInHanded_of_change_sized (C := Try.checked) own started (by kernel_rfl) Try.func9
    (ChangeSpec.witness6 (enc := enc) (C := Try.checked) false ⟨#[], #[.slice none 0 0, .slice none 0 0], []⟩ 8 (by kernel_rfl) (by kernel_rfl) (by kernel_rfl) (by kernel_rfl)) ?_
  intro W base args ds gs before hval hW _ hsz _
  exact contract H enc W base args ds gs before hval hW hsz

theorem proved : Rows.FnScriptKeptSaid :=
  OpenClaim.holds_of_wide 9 Try.f9 rfl rfl rfl rfl rfl rfl rfl ⟨rfl, rfl, rfl, rfl, rfl⟩ rfl rfl rfl rfl rfl (by kernel_rfl) Try.func9 (by kernel_rfl)
    (of_decide_eq_true (by kernel_rfl)) (by unfold Func.isWrapper; first | (rw [if_pos (by decide +kernel)]; kernel_rfl) | (rw [if_neg (by decide +kernel)]; exact ⟨rfl, rfl⟩))
    (fun os started H enc _ => lifted os started H enc)
end Go.Proofs.Ytadacjndepkfeaa.fnScriptKept
