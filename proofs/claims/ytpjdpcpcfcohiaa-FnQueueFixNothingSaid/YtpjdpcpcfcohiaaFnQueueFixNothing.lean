/-
  FnQueueFixNothing returns true for every script and every index. Condition: the reach of a slice that every statement bears.
-/
import Derived.Test.YtpjdpcpcfcohiaaDeskW
import Derived.Test.YtpjdpcpcfcohiaaOpenS
import Derived.IntWalk
namespace Go.Proofs.Ytpjdpcpcfcohiaa.fnQueueFixNothing
open Go.ChangeShapes Go.WideShapes Go.ChangeAt Go.RowKit Go.Shelf Go.Deep Go.Joins
open Hp (g swp Ev St plc qOut qRest pushed nums)

set_option maxHeartbeats 8000000 in
set_option maxRecDepth 100000 in
theorem walk (w : World) (As : Option Addr) (cs : Nat) (ss : List St) (i : Int) (hrs : Rd w As (clsT ss)) (hns : ss.length * 32 ≤ 140737488351232) :
    Calls Try.prog 6 #[.slice As ss.length cs, .int .i64 i] w (Gives w (.bool true)) := by
  have HRS := Lib.hid hrs
  have hsl : ss.length ≤ 4398046510976 := by omega
  clear hrs hns
  go_enter Try.func6, Try.ntmps6
  go_wp2_with fail
  refine (toStepS_any _ As _ cs ss rfl HRS.out (by omega)).mono ?_
  rintro e w1 ⟨A1, c1, rfl, ho1, hb1⟩
  have HO1 := Lib.hid (Rd.of_own ho1)
  have HB1 := Lib.hid hb1
  clear ho1 hb1
  go_wp2_with fail
  refine (spec_rest_law w1 A1 _ c1 ss rfl HO1.out (by omega)).mono ?_
  rintro e W ⟨R, AR, cR, eR, rfl, hoR, hbR⟩
  have hRl : R.length ≤ ss.length := by rw [eR]; exact (q_lens ss).2.1
  have HRR := Lib.hid (Rd.of_own hoR)
  have HB2 := Lib.hid (bnext HB1.out hbR)
  have HER := Lib.hid eR
  clear eR hoR hbR HO1 HB1
  by_cases hi0 : i < 0
  · have d0 : decide (i < 0) = true := decide_eq_true hi0
    go_wp2
    go_ret
    exact ⟨rfl, HB2.out⟩
  obtain ⟨m, rfl⟩ : ∃ m : Nat, i = (m : Int) := ⟨i.toNat, by omega⟩
  by_cases him : R.length ≤ m
  · have d0 : decide (R.length ≤ m) = true := decide_eq_true him
    go_wp2
    go_ret
    exact ⟨rfl, HB2.out⟩
  have hmR : m < R.length := by omega
  obtain ⟨br, orr, hAR, hbr, q1, q2⟩ := HRR.out.at_ m hmR
  subst hAR
  have hmem := Hp.mem_g hmR
  obtain ⟨⟨x1, x2⟩, hx⟩ : ∃ x, g R m = x := ⟨_, rfl⟩
  rw [hx] at q1 q2 hmem
  have HMEM := Lib.hid (show (x1, x2) ∈ qRest ss by rw [← HER.out]; exact hmem)
  have m0 : (0 : Int) ≤ (m : Int) := by omega
  have m1 : (m : Int) < (R.length : Int) := by omega
  have d1 : decide ((m : Int) < 0) = false := decide_eq_false (by omega)
  have d2 : decide (R.length ≤ m) = false := decide_eq_false (by omega)
  have HRW := Lib.hid (show ∀ W', Below W.heap.size W W' → Rd W' As (clsT ss) from fun W' hW' => HRS.out.below (bnext HB2.out hW') (Nat.le_refl _))
  clear hx hmem hi0 him
  have HFN := Lib.hid (show qRest (ss ++ [((4 : Int), x2, x1, (0 : Int))]) = R by rw [HER.out]; exact Hp.fix_nothing ss HMEM.out 0)
  have H00 := Lib.hid ((Below.refl W.heap.size W).drew)
  have H01 := Lib.hid ((Below.refl W.heap.size W).drew.alloc (Nat.le_refl _) (.cells #[.int .i64 4, .int .i64 x2, .int .i64 x1, .int .i64 0] 36))
  have HRZ := Lib.hid (rd_built W.drew #[.int .i64 4, .int .i64 x2, .int .i64 x1, .int .i64 0] [((4 : Int), x2, x1, (0 : Int))] 1 rfl rfl (by decide))
  go_wp2_with fail
  go_region_held3 (fun w' => w'.cell? ⟨br, orr + m * 2, none⟩ = some (.int .i64 x1) ∧ w'.cell? ⟨br, orr + m * 2 + 1, none⟩ = some (.int .i64 x2))
    (first
      | exact ⟨kd1, kd2⟩
      | exact ⟨kc1, kc2⟩
      | exact ⟨kb1, kb2⟩
      | exact ⟨ka1, ka2⟩
      | exact ⟨q1, q2⟩
      | go_keep)
    (first
      | (go_at_call 16
         ((with_reducible refine (toStepS_any _ As _ cs ss rfl ?_ ?_).mono ?_)
          · exact HRW.out _ (by first | exact H00.out | exact H01.out)
          · omega
          rintro e wa ⟨Aa, ca, rfl, hoa, hba⟩
          have ka1 : wa.cell? ⟨br, orr + m * 2, none⟩ = some (.int .i64 x1) := (hba.cell (p := ⟨br, orr + m * 2, none⟩) (by (try simp only [size_drew, heap_size_alloc]); omega)).trans (by first | exact q1 | exact (World.cell?_alloc_lt _ _ ⟨br, orr + m * 2, none⟩ hbr).trans q1)
          have ka2 : wa.cell? ⟨br, orr + m * 2 + 1, none⟩ = some (.int .i64 x2) := (hba.cell (p := ⟨br, orr + m * 2 + 1, none⟩) (by (try simp only [size_drew, heap_size_alloc]); omega)).trans (by first | exact q2 | exact (World.cell?_alloc_lt _ _ ⟨br, orr + m * 2 + 1, none⟩ hbr).trans q2)
          have hsa := hba.size
          try simp only [size_drew, heap_size_alloc] at hsa
          have hza : br < wa.heap.size := by omega
          have hne : some br ≠ (Value.slice Aa ss.length ca).ownBlock := by intro e; have := (hoa.lt _ e.symm).1; try simp only [size_drew, heap_size_alloc] at this; omega))
      | (refine wanted_plain rfl (wp_append_sts (.tmp 18) (.tmp 30) rfl (.slice Aa ss.length ca) W.heap.size ss [((4 : Int), x2, x1, (0 : Int))] (some ⟨wa.heap.size, 0, none⟩) 1 1 rfl (by decide) (by simp [Act.eval]) (by simp [Act.eval]) ?_ ?_ ?_ ?_ ?_)
         · exact own_base (hoa.alloc _) (by (try simp only [size_drew, heap_size_alloc]); omega)
         · exact rd_built wa #[.int .i64 4, .int .i64 x2, .int .i64 x1, .int .i64 0] [((4 : Int), x2, x1, (0 : Int))] 1 rfl rfl (by decide)
         · omega
         · simp; omega
         intro A2 c2 w2 ho2 hg2
         have hb2 : Below W.heap.size W w2 := ((H00.out.trans (hba.mono (by (try simp only [size_drew, heap_size_alloc]); omega))).alloc (by omega) _).grown hg2 (by simp; omega) (fun k hk => by have := (hoa.lt k hk).1; try simp only [size_drew, heap_size_alloc] at this; omega)
         have kb1 := hg2.cell ((World.cell?_alloc_lt _ _ ⟨br, orr + m * 2, none⟩ hza).trans ka1) hne
         have kb2 := hg2.cell ((World.cell?_alloc_lt _ _ ⟨br, orr + m * 2 + 1, none⟩ hza).trans ka2) hne
         have HRJ := Lib.hid (Rd.of_own ho2)
         have hz2 : br < w2.heap.size := by have := hb2.size; omega
         have HJL : Hid (ss.length + 1 = (ss ++ [((4 : Int), x2, x1, (0 : Int))]).length) := by unfold Hid; rw [List.length_append]; rfl
         clear ho2 hg2)
      | (refine wanted_plain rfl (wp_append_sts (.tmp 18) (.tmp 30) rfl (.slice Aa ss.length ca) W.heap.size ss [((4 : Int), x2, x1, (0 : Int))] (some ⟨W.heap.size, 0, none⟩) 1 1 rfl (by decide) (by simp [Act.eval]) (by simp [Act.eval]) ?_ ?_ ?_ ?_ ?_)
         · exact own_base hoa (by (try simp only [size_drew, heap_size_alloc]); omega)
         · exact HRZ.out.below hba (Nat.le_refl _)
         · omega
         · omega
         intro A2 c2 w2 ho2 hg2
         have hb2 : Below W.heap.size W w2 := (H01.out.trans (hba.mono (by (try simp only [size_drew, heap_size_alloc]); omega))).grown hg2 (by omega) (fun k hk => by have := (hoa.lt k hk).1; try simp only [size_drew, heap_size_alloc] at this; omega)
         have kb1 := hg2.cell ka1 hne
         have kb2 := hg2.cell ka2 hne
         have HRJ := Lib.hid (Rd.of_own ho2)
         have hz2 : br < w2.heap.size := by have := hb2.size; omega
         have HJL : Hid (ss.length + 1 = (ss ++ [((4 : Int), x2, x1, (0 : Int))]).length) := by unfold Hid; rw [List.length_append]; rfl
         clear ho2 hg2)
      | (go_at_call 24
         ((with_reducible refine (rest_law _ A2 _ c2 (ss ++ [((4 : Int), x2, x1, (0 : Int))]) ?_ ?_ ?_).mono ?_)
          · exact HJL.out
          · exact HRJ.out
          · rw [← HJL.out]; omega
          rintro e w3 ⟨L, A3, c3, eL, rfl, ho3, hb3⟩
          have kc1 := (hb3.cell (p := ⟨br, orr + m * 2, none⟩) hz2).trans kb1
          have kc2 := (hb3.cell (p := ⟨br, orr + m * 2 + 1, none⟩) hz2).trans kb2
          rw [HFN.out] at eL
          have HRL := Lib.hid (Rd.of_own ho3)
          have hz3 : br < w3.heap.size := by have := hb3.size; omega
          have HEL := Lib.hid eL
          have HBL := Lib.hid (bnext hb2 hb3)
          clear ho3 hb3 eL))
      | (go_at_call 30
         ((with_reducible refine (sameItems_eq _ A3 (some ⟨br, orr, none⟩) _ _ c3 cR L ?_ ?_ ?_ ?_ ?_).mono ?_)
          · rfl
          · rw [HEL.out]
          · exact HRL.out
          · rw [HEL.out]; exact HRR.out.below HBL.out (Nat.le_refl _)
          · rw [HEL.out]; omega
          rintro e we ⟨rfl, hbe⟩
          have kd1 := (hbe.cell (p := ⟨br, orr + m * 2, none⟩) hz3).trans kc1
          have kd2 := (hbe.cell (p := ⟨br, orr + m * 2 + 1, none⟩) hz3).trans kc2)))
  all_goals
    have HBZ := Lib.hid (bnext (bnext HB2.out HBL.out) hbe)
    clear hbe hb2 hba hoa ka1 ka2 kb1 kb2 kc1 kc2 kd1 kd2 hsa hza hne q1 q2
    go_wp2
    go_ret
    exact ⟨rfl, HBZ.out⟩

theorem contract (H : Type) (enc : TypeId × Value → H) (W : World) (base : Nat) (args : Array Value) (ds gs : List (DataW H)) (before : List MemPlace)
    (hval : ∀ (j : Nat) t v, Try.f6.params[j]? = some t → args[j]? = some v → Value.okWide Try.prog W .any base t v)
    (hW : DataW.Whole enc Try.prog Try.f6.params.toList Rows.fnQueueFixNothingSpec.vars false W args.toList ds gs before)
    (hsz : (DataW.weightsEach Try.prog (Try.f6.params.toList ++ Rows.fnQueueFixNothingSpec.plain.varTypes Try.prog) (ds ++ gs)).all (· ≤ reachBytes) = true) :
    Calls Try.prog 6 args W fun e W' => ∃ v, e = .returned v ∧ Rows.fnQueueFixNothingSpec.post enc Try.prog Try.f6 false true false false W args v W' := by
  have hW' := hW
  obtain ⟨p, q, hA0, hV, rfl, _, _⟩ := hW
  have hA : DataW.TrodAll enc Try.prog W 0 (fun _ => true) true Try.f6.params.toList args.toList ds p := hA0
  rw [Try.params6] at hA hval hsz
  obtain ⟨v0, v1, d0, d1, p0, p1, rfl, rfl, rfl, h0, h1⟩ := trodAll_two hA
  obtain ⟨rfl, rfl⟩ := trodVars_none hV
  obtain ⟨A0, c0, l0, rfl, hr0, hn0⟩ := open_steps (hval 0 22 v0 rfl rfl) h0 (fun elems spare he => by
    have := sized_slice hsz (j := 0) (t := 22) (e := 57) rfl (by rw [he]; rfl) Try.underlying22
    rw [bytes_lawStep] at this
    exact this)
  obtain ⟨i1, rfl, rfl, rfl, wi1⟩ := open_int Try.underlying3 (hval 1 3 v1 rfl rfl) h1
  have hcall : Calls Try.prog 6 #[.slice A0 l0.length c0, .int .i64 i1] W (Gives W (.bool true)) := walk W A0 c0 l0 i1 hr0 hn0
  refine hcall.mono fun e W' ⟨he, hb⟩ => ⟨_, he, ?_⟩
  exact law_post hW' rfl rfl rfl rfl rfl (by rw [Try.params6]; exact of_decide_eq_true (by kernel_rfl)) hb

set_option maxRecDepth 100000 in
theorem lifted (os : Os) (started : os.Started) (H : Type) (enc : TypeId × Value → H) :
    ReturnsInHanded {} Try.checked os 6 .any (Rows.fnQueueFixNothingSpec.pre6 enc Try.prog Try.f6 Rows.fnQueueFixNothingRow.domain false) (Rows.fnQueueFixNothingSpec.post enc Try.prog Try.f6 false true false false) := by
  refine returnsInHanded_of_change_sized (C := Try.checked) own started (by kernel_rfl) Try.func6
    (ChangeSpec.witness6 (enc := enc) (C := Try.checked) false ⟨#[], #[.slice none 0 0, .int .i64 0], []⟩ 8 (by kernel_rfl) (by kernel_rfl) (by kernel_rfl) (by kernel_rfl)) ?_
  intro W base args ds gs before hval hW _ hsz _
  exact contract H enc W base args ds gs before hval hW hsz

theorem proved : Rows.FnQueueFixNothingSaid :=
  OpenClaim.holds_of_wide 6 Try.f6 rfl rfl rfl rfl rfl rfl rfl ⟨rfl, rfl, rfl, rfl, rfl⟩ rfl rfl rfl rfl rfl (by kernel_rfl) Try.func6 (by kernel_rfl)
    (of_decide_eq_true (by kernel_rfl)) (by unfold Func.isWrapper; first | (rw [if_pos (by decide +kernel)]; kernel_rfl) | (rw [if_neg (by decide +kernel)]; exact ⟨rfl, rfl⟩))
    (fun os started H enc _ => lifted os started H enc)
end Go.Proofs.Ytpjdpcpcfcohiaa.fnQueueFixNothing
