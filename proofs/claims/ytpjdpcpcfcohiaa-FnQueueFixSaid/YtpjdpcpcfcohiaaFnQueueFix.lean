/-
  FnQueueFix returns true for every script and every index and every key. Condition: the reach of a slice that every statement bears.
-/
import Derived.Test.YtpjdpcpcfcohiaaDeskW
import Derived.Test.YtpjdpcpcfcohiaaOpenS
import Derived.IntWalk
namespace Go.Proofs.Ytpjdpcpcfcohiaa.fnQueueFix
open Go.ChangeShapes Go.WideShapes Go.ChangeAt Go.RowKit Go.Shelf Go.Deep Go.Joins
open Hp (g swp Ev St plc qOut qRest pushed nums)

set_option maxHeartbeats 8000000 in
set_option maxRecDepth 100000 in
theorem walk (w : World) (As : Option Addr) (cs : Nat) (ss : List St) (i key : Int) (hrs : Rd w As (clsT ss)) (hns : ss.length * 32 ≤ 140737488351232) :
    Calls Try.prog 5 #[.slice As ss.length cs, .int .i64 i, .int .i64 key] w (Gives w (.bool true)) := by
  have HRS := Lib.hid hrs
  have hsl : ss.length ≤ 4398046510976 := by omega
  clear hrs hns
  go_enter Try.func5, Try.ntmps5
  go_wp2_with fail
  refine (toStepS_any _ As _ cs ss rfl HRS.out (by omega)).mono ?_
  rintro e w1 ⟨A1, c1, rfl, ho1, hb1⟩
  have HO1 := Lib.hid (Rd.of_own ho1)
  have HB1 := Lib.hid hb1
  clear ho1 hb1
  go_wp2_with fail
  refine (spec_rest_law w1 A1 _ c1 ss rfl HO1.out (by omega)).mono ?_
  rintro e W ⟨R, AR, cR, eR, rfl, hoR, hbR⟩
  have hRl : R.length ≤ ss.length := by rw [eR]; exact (q_lens ss).2.1
  have HRR := Lib.hid (Rd.of_own hoR)
  have HB2 := Lib.hid (bnext HB1.out hbR)
  have HER := Lib.hid eR
  clear eR hoR hbR HO1 HB1
  by_cases hi0 : i < 0
  · have d0 : decide (i < 0) = true := decide_eq_true hi0
    go_wp2
    go_ret
    exact ⟨rfl, HB2.out⟩
  obtain ⟨m, rfl⟩ : ∃ m : Nat, i = (m : Int) := ⟨i.toNat, by omega⟩
  by_cases him : R.length ≤ m
  · have d0 : decide (R.length ≤ m) = true := decide_eq_true him
    go_wp2
    go_ret
    exact ⟨rfl, HB2.out⟩
  have hmR : m < R.length := by omega
  obtain ⟨br, orr, hAR, hbr, q1, q2⟩ := HRR.out.at_ m hmR
  subst hAR
  have hmem := Hp.mem_g hmR
  obtain ⟨⟨x1, x2⟩, hx⟩ : ∃ x, g R m = x := ⟨_, rfl⟩
  rw [hx] at q1 q2 hmem
  have HMEM := Lib.hid (show (x1, x2) ∈ qRest ss by rw [← HER.out]; exact hmem)
  have m0 : (0 : Int) ≤ (m : Int) := by omega
  have m1 : (m : Int) < (R.length : Int) := by omega
  have d1 : decide ((m : Int) < 0) = false := decide_eq_false (by omega)
  have d2 : decide (R.length ≤ m) = false := decide_eq_false (by omega)
  have HRW := Lib.hid (show ∀ W', Below W.heap.size W W' → Rd W' As (clsT ss) from fun W' hW' => HRS.out.below (bnext HB2.out hW') (Nat.le_refl _))
  clear hx hmem hi0 him
  have HPF := Lib.hid (show (qRest (ss ++ [((4 : Int), x2, key, (0 : Int))])).Perm (R.erase (x1, x2) ++ [(key, x2)]) by rw [HER.out]; exact Hp.fix_rest ss HMEM.out key 0)
  have HLF := Lib.hid (show (qRest (ss ++ [((4 : Int), x2, key, (0 : Int))])).length = R.length by rw [HER.out]; exact Hp.length_fixQ ss HMEM.out key 0)
  have HKF := Lib.hid (show (qRest (ss ++ [((3 : Int), x2, (0 : Int), (0 : Int)), ((1 : Int), (0 : Int), key, (0 : Int))])).map Prod.fst = (qRest (ss ++ [((4 : Int), x2, key, (0 : Int))])).map Prod.fst by
    have h9 := Hp.moved_keys ss HMEM.out key 0 0 0 0 0
    rw [List.append_assoc] at h9
    exact h9)

  have H00 := Lib.hid ((Below.refl W.heap.size W).drew)
  have H01 := Lib.hid ((Below.refl W.heap.size W).drew.alloc (Nat.le_refl _) (.cells #[.int .i64 4, .int .i64 x2, .int .i64 key, .int .i64 0] 36))
  have HRZ := Lib.hid (rd_built W.drew #[.int .i64 4, .int .i64 x2, .int .i64 key, .int .i64 0] [((4 : Int), x2, key, (0 : Int))] 1 rfl rfl (by decide))
  go_wp2_with fail
  go_region_held3 (fun w' => w'.cell? ⟨br, orr + m * 2, none⟩ = some (.int .i64 x1) ∧ w'.cell? ⟨br, orr + m * 2 + 1, none⟩ = some (.int .i64 x2))
    (first
      | exact ⟨kd1, kd2⟩
      | exact ⟨kc1, kc2⟩
      | exact ⟨kb1, kb2⟩
      | exact ⟨ka1, ka2⟩
      | exact ⟨q1, q2⟩
      | go_keep)
    (first
      | (go_at_call 16
         ((with_reducible refine (toStepS_any _ As _ cs ss rfl ?_ ?_).mono ?_)
          · exact HRW.out _ (by first | exact H00.out | exact H01.out)
          · omega
          rintro e wa ⟨Aa, ca, rfl, hoa, hba⟩
          have ka1 : wa.cell? ⟨br, orr + m * 2, none⟩ = some (.int .i64 x1) := (hba.cell (p := ⟨br, orr + m * 2, none⟩) (by (try simp only [size_drew, heap_size_alloc]); omega)).trans (by first | exact q1 | exact (World.cell?_alloc_lt _ _ ⟨br, orr + m * 2, none⟩ hbr).trans q1)
          have ka2 : wa.cell? ⟨br, orr + m * 2 + 1, none⟩ = some (.int .i64 x2) := (hba.cell (p := ⟨br, orr + m * 2 + 1, none⟩) (by (try simp only [size_drew, heap_size_alloc]); omega)).trans (by first | exact q2 | exact (World.cell?_alloc_lt _ _ ⟨br, orr + m * 2 + 1, none⟩ hbr).trans q2)
          have hsa := hba.size
          try simp only [size_drew, heap_size_alloc] at hsa
          have hza : br < wa.heap.size := by omega
          have hne : some br ≠ (Value.slice Aa ss.length ca).ownBlock := by intro e; have := (hoa.lt _ e.symm).1; try simp only [size_drew, heap_size_alloc] at this; omega))
      | (refine wanted_plain rfl (wp_append_sts (.tmp 22) (.tmp 30) rfl (.slice Aa ss.length ca) W.heap.size ss [((4 : Int), x2, key, (0 : Int))] (some ⟨wa.heap.size, 0, none⟩) 1 1 rfl (by decide) (by simp [Act.eval]) (by simp [Act.eval]) ?_ ?_ ?_ ?_ ?_)
         · exact own_base (hoa.alloc _) (by (try simp only [size_drew, heap_size_alloc]); omega)
         · exact rd_built wa #[.int .i64 4, .int .i64 x2, .int .i64 key, .int .i64 0] [((4 : Int), x2, key, (0 : Int))] 1 rfl rfl (by decide)
         · omega
         · simp; omega
         intro A2 c2 w2 ho2 hg2
         have hb2 : Below W.heap.size W w2 := ((H00.out.trans (hba.mono (by (try simp only [size_drew, heap_size_alloc]); omega))).alloc (by omega) _).grown hg2 (by simp; omega) (fun k hk => by have := (hoa.lt k hk).1; try simp only [size_drew, heap_size_alloc] at this; omega)
         have kb1 := hg2.cell ((World.cell?_alloc_lt _ _ ⟨br, orr + m * 2, none⟩ hza).trans ka1) hne
         have kb2 := hg2.cell ((World.cell?_alloc_lt _ _ ⟨br, orr + m * 2 + 1, none⟩ hza).trans ka2) hne
         have HRJ := Lib.hid (Rd.of_own ho2)
         have hz2 : br < w2.heap.size := by have := hb2.size; omega
         have HJL : Hid (ss.length + 1 = (ss ++ [((4 : Int), x2, key, (0 : Int))]).length) := by unfold Hid; rw [List.length_append]; rfl
         clear ho2 hg2)
      | (refine wanted_plain rfl (wp_append_sts (.tmp 22) (.tmp 30) rfl (.slice Aa ss.length ca) W.heap.size ss [((4 : Int), x2, key, (0 : Int))] (some ⟨W.heap.size, 0, none⟩) 1 1 rfl (by decide) (by simp [Act.eval]) (by simp [Act.eval]) ?_ ?_ ?_ ?_ ?_)
         · exact own_base hoa (by (try simp only [size_drew, heap_size_alloc]); omega)
         · exact HRZ.out.below hba (Nat.le_refl _)
         · omega
         · omega
         intro A2 c2 w2 ho2 hg2
         have hb2 : Below W.heap.size W w2 := (H01.out.trans (hba.mono (by (try simp only [size_drew, heap_size_alloc]); omega))).grown hg2 (by omega) (fun k hk => by have := (hoa.lt k hk).1; try simp only [size_drew, heap_size_alloc] at this; omega)
         have kb1 := hg2.cell ka1 hne
         have kb2 := hg2.cell ka2 hne
         have HRJ := Lib.hid (Rd.of_own ho2)
         have hz2 : br < w2.heap.size := by have := hb2.size; omega
         have HJL : Hid (ss.length + 1 = (ss ++ [((4 : Int), x2, key, (0 : Int))]).length) := by unfold Hid; rw [List.length_append]; rfl
         clear ho2 hg2)
      | (go_at_call 24
         ((with_reducible refine (rest_law _ A2 _ c2 (ss ++ [((4 : Int), x2, key, (0 : Int))]) ?_ ?_ ?_).mono ?_)
          · exact HJL.out
          · exact HRJ.out
          · rw [← HJL.out]; omega
          rintro e w3 ⟨L, A3, c3, eL, rfl, ho3, hb3⟩
          have kc1 := (hb3.cell (p := ⟨br, orr + m * 2, none⟩) hz2).trans kb1
          have kc2 := (hb3.cell (p := ⟨br, orr + m * 2 + 1, none⟩) hz2).trans kb2
          have HRL := Lib.hid (Rd.of_own ho3)
          have HEL := Lib.hid eL
          have HBL := Lib.hid (bnext hb2 hb3)
          clear ho3 hb3 eL)))
  all_goals
    have Q1 := kc1
    have Q2 := kc2
    have hz3 : br < w3.heap.size := by have := HBL.out.size; omega
    have hLl : L.length ≤ ss.length := by rw [HEL.out, HLF.out]; exact hRl
    have HRWx := Lib.hid (show ∀ W', Below w3.heap.size w3 W' → Rd W' As (clsT ss) from fun W' hW' => HRW.out _ (bnext HBL.out hW'))
    clear hb2 hba hoa ka1 ka2 kb1 kb2 kc1 kc2 hsa hza hne q1 q2

    have H00x := Lib.hid ((Below.refl w3.heap.size w3).drew)
    have H01x := Lib.hid ((Below.refl w3.heap.size w3).drew.alloc (Nat.le_refl _) (.cells #[.int .i64 3, .int .i64 x2, .int .i64 0, .int .i64 0, .int .i64 1, .int .i64 0, .int .i64 key, .int .i64 0] 36))
    have HRZx := Lib.hid (rd_built w3.drew #[.int .i64 3, .int .i64 x2, .int .i64 0, .int .i64 0, .int .i64 1, .int .i64 0, .int .i64 key, .int .i64 0] [((3 : Int), x2, (0 : Int), (0 : Int)), ((1 : Int), (0 : Int), key, (0 : Int))] 2 rfl rfl (by decide))
    go_wp2_with fail
    go_region_held3 (fun w' => w'.cell? ⟨br, orr + m * 2, none⟩ = some (.int .i64 x1) ∧ w'.cell? ⟨br, orr + m * 2 + 1, none⟩ = some (.int .i64 x2))
      (first
        | exact ⟨kdx1, kdx2⟩
        | exact ⟨kcx1, kcx2⟩
        | exact ⟨kbx1, kbx2⟩
        | exact ⟨kax1, kax2⟩
        | exact ⟨Q1, Q2⟩
        | go_keep)
      (first
        | (go_at_call 16
           ((with_reducible refine (toStepS_any _ As _ cs ss rfl ?_ ?_).mono ?_)
            · exact HRWx.out _ (by first | exact H00x.out | exact H01x.out)
            · omega
            rintro e wax ⟨Aax, cax, rfl, hoax, hbax⟩
            have kax1 : wax.cell? ⟨br, orr + m * 2, none⟩ = some (.int .i64 x1) := (hbax.cell (p := ⟨br, orr + m * 2, none⟩) (by (try simp only [size_drew, heap_size_alloc]); omega)).trans (by first | exact Q1 | exact (World.cell?_alloc_lt _ _ ⟨br, orr + m * 2, none⟩ hz3).trans Q1)
            have kax2 : wax.cell? ⟨br, orr + m * 2 + 1, none⟩ = some (.int .i64 x2) := (hbax.cell (p := ⟨br, orr + m * 2 + 1, none⟩) (by (try simp only [size_drew, heap_size_alloc]); omega)).trans (by first | exact Q2 | exact (World.cell?_alloc_lt _ _ ⟨br, orr + m * 2 + 1, none⟩ hz3).trans Q2)
            have hsax := hbax.size
            try simp only [size_drew, heap_size_alloc] at hsax
            have hzax : br < wax.heap.size := by omega
            have hnex : some br ≠ (Value.slice Aax ss.length cax).ownBlock := by intro e; have := (hoax.lt _ e.symm).1; try simp only [size_drew, heap_size_alloc] at this; omega))
        | (refine wanted_plain rfl (wp_append_sts (.tmp 34) (.tmp 43) rfl (.slice Aax ss.length cax) w3.heap.size ss [((3 : Int), x2, (0 : Int), (0 : Int)), ((1 : Int), (0 : Int), key, (0 : Int))] (some ⟨wax.heap.size, 0, none⟩) 2 2 rfl (by decide) (by simp [Act.eval]) (by simp [Act.eval]) ?_ ?_ ?_ ?_ ?_)
           · exact own_base (hoax.alloc _) (by (try simp only [size_drew, heap_size_alloc]); omega)
           · exact rd_built wax #[.int .i64 3, .int .i64 x2, .int .i64 0, .int .i64 0, .int .i64 1, .int .i64 0, .int .i64 key, .int .i64 0] [((3 : Int), x2, (0 : Int), (0 : Int)), ((1 : Int), (0 : Int), key, (0 : Int))] 2 rfl rfl (by decide)
           · omega
           · simp; omega
           intro A2x c2x w2x ho2x hg2x
           have hb2x : Below w3.heap.size w3 w2x := ((H00x.out.trans (hbax.mono (by (try simp only [size_drew, heap_size_alloc]); omega))).alloc (by omega) _).grown hg2x (by simp; omega) (fun k hk => by have := (hoax.lt k hk).1; try simp only [size_drew, heap_size_alloc] at this; omega)
           have kbx1 := hg2x.cell ((World.cell?_alloc_lt _ _ ⟨br, orr + m * 2, none⟩ hzax).trans kax1) hnex
           have kbx2 := hg2x.cell ((World.cell?_alloc_lt _ _ ⟨br, orr + m * 2 + 1, none⟩ hzax).trans kax2) hnex
           have HRJx := Lib.hid (Rd.of_own ho2x)
           have hz2x : br < w2x.heap.size := by have := hb2x.size; omega
           have HJLx : Hid (ss.length + 2 = (ss ++ [((3 : Int), x2, (0 : Int), (0 : Int)), ((1 : Int), (0 : Int), key, (0 : Int))]).length) := by unfold Hid; rw [List.length_append]; rfl
           clear ho2x hg2x)
        | (refine wanted_plain rfl (wp_append_sts (.tmp 34) (.tmp 43) rfl (.slice Aax ss.length cax) w3.heap.size ss [((3 : Int), x2, (0 : Int), (0 : Int)), ((1 : Int), (0 : Int), key, (0 : Int))] (some ⟨w3.heap.size, 0, none⟩) 2 2 rfl (by decide) (by simp [Act.eval]) (by simp [Act.eval]) ?_ ?_ ?_ ?_ ?_)
           · exact own_base hoax (by (try simp only [size_drew, heap_size_alloc]); omega)
           · exact HRZx.out.below hbax (Nat.le_refl _)
           · omega
           · omega
           intro A2x c2x w2x ho2x hg2x
           have hb2x : Below w3.heap.size w3 w2x := (H01x.out.trans (hbax.mono (by (try simp only [size_drew, heap_size_alloc]); omega))).grown hg2x (by omega) (fun k hk => by have := (hoax.lt k hk).1; try simp only [size_drew, heap_size_alloc] at this; omega)
           have kbx1 := hg2x.cell kax1 hnex
           have kbx2 := hg2x.cell kax2 hnex
           have HRJx := Lib.hid (Rd.of_own ho2x)
           have hz2x : br < w2x.heap.size := by have := hb2x.size; omega
           have HJLx : Hid (ss.length + 2 = (ss ++ [((3 : Int), x2, (0 : Int), (0 : Int)), ((1 : Int), (0 : Int), key, (0 : Int))]).length) := by unfold Hid; rw [List.length_append]; rfl
           clear ho2x hg2x)
        | (go_at_call 24
           ((with_reducible refine (rest_law _ A2x _ c2x (ss ++ [((3 : Int), x2, (0 : Int), (0 : Int)), ((1 : Int), (0 : Int), key, (0 : Int))]) ?_ ?_ ?_).mono ?_)
            · exact HJLx.out
            · exact HRJx.out
            · rw [← HJLx.out]; omega
            rintro e w3x ⟨Lx, A3x, c3x, eLx, rfl, ho3x, hb3x⟩
            have kcx1 := (hb3x.cell (p := ⟨br, orr + m * 2, none⟩) hz2x).trans kbx1
            have kcx2 := (hb3x.cell (p := ⟨br, orr + m * 2 + 1, none⟩) hz2x).trans kbx2
            have HRLx := Lib.hid (Rd.of_own ho3x)
            have HELx := Lib.hid eLx
            have HBLx := Lib.hid (bnext hb2x hb3x)
            clear ho3x hb3x eLx)))
    all_goals
      obtain ⟨U, hU⟩ : ∃ U, U = w3x := ⟨_, rfl⟩
      have k1 := kcx1
      have k2 := kcx2
      have HRRU := Lib.hid (HRR.out.below (bnext HBL.out HBLx.out) (Nat.le_refl _))
      have HRLU := Lib.hid (HRL.out.below HBLx.out (Nat.le_refl _))
      have hzU : br < w3x.heap.size := by have := HBLx.out.size; omega
      have hLxl : Lx.length ≤ ss.length := by
        have h9 := congrArg List.length HKF.out
        rw [List.length_map, List.length_map, ← HELx.out, ← HEL.out] at h9
        omega
      obtain ⟨KL, hKL⟩ : ∃ KL, KL = L.map Prod.fst := ⟨_, rfl⟩
      have HKL := Lib.hid hKL
      have HKX := Lib.hid (show KL = Lx.map Prod.fst by rw [hKL, HELx.out, HEL.out]; exact HKF.out.symm)
      have hKl : KL.length ≤ ss.length := by rw [hKL, List.length_map]; exact hLl
      have hll : ((L.length : Int) == (R.length : Int)) = true := by rw [HEL.out, HLF.out]; simp
      have HPL := Lib.hid (show L.Perm (R.erase (x1, x2) ++ [(key, x2)]) by rw [HEL.out]; exact HPF.out)
      have hRe : (R.erase (x1, x2)).length ≤ ss.length := Nat.le_trans List.length_erase_le hRl
      clear hU hb2x hbax hoax kax1 kax2 kbx1 kbx2 kcx1 kcx2 hsax hzax hnex Q1 Q2 hKL
      go_wp2_with fail
      go_region_held3 (fun w' => w'.cell? ⟨br, orr + m * 2, none⟩ = some (.int .i64 x1) ∧ w'.cell? ⟨br, orr + m * 2 + 1, none⟩ = some (.int .i64 x2))
        (first
          | exact ⟨kf1, kf2⟩
          | exact ⟨ke1, ke2⟩
          | exact ⟨kd1, kd2⟩
          | exact ⟨kc1, kc2⟩
          | exact ⟨kb1, kb2⟩
          | exact ⟨ka1, ka2⟩
          | exact ⟨k1, k2⟩
          | go_keep)
        (first
          | (go_at_call 26
             ((with_reducible refine (keysOf_any _ A3 _ c3 L rfl ?_ ?_).mono ?_)
              · exact HRLU.out
              · omega
              rintro e va ⟨Ba, da, rfl, hoa, hba⟩
              rw [← HKL.out] at hoa
              have hba' : Below w3x.heap.size w3x va := (Below.refl _ _).drew.trans hba
              have ka1 := (hba'.cell (p := ⟨br, orr + m * 2, none⟩) hzU).trans k1
              have ka2 := (hba'.cell (p := ⟨br, orr + m * 2 + 1, none⟩) hzU).trans k2
              have HRa := Lib.hid (Rd.of_own hoa)
              have HBa := Lib.hid hba'
              have hza : br < va.heap.size := by have := hba'.size; omega
              clear hoa hba hba'))
          | (go_at_call 26
             ((with_reducible refine (keysOf_any _ A3x _ c3x Lx rfl ?_ ?_).mono ?_)
              · exact HRLx.out.below HBa.out (Nat.le_refl _)
              · omega
              rintro e vb ⟨Bb, db, rfl, hob, hbb⟩
              rw [← HKX.out] at hob
              have kb1 := (hbb.cell (p := ⟨br, orr + m * 2, none⟩) hza).trans ka1
              have kb2 := (hbb.cell (p := ⟨br, orr + m * 2 + 1, none⟩) hza).trans ka2
              have HRa2 := Lib.hid (HRa.out.below hbb (Nat.le_refl _))
              have HRb := Lib.hid (Rd.of_own hob)
              have HBb := Lib.hid (bnext HBa.out hbb)
              have hzb : br < vb.heap.size := by have := hbb.size; omega
              clear hob hbb))
          | (go_at_call 25
             ((with_reducible refine (sameInts_eq _ Ba Bb _ _ da db KL ?_ ?_ ?_ ?_ ?_).mono ?_)
              · first | (rw [HKL.out]; done) | (rw [HKL.out]; simp)
              · first | (rw [HKX.out]; done) | (rw [HKX.out]; simp)
              · exact HRa2.out
              · exact HRb.out
              · omega
              rintro e vc ⟨rfl, hbc⟩
              have kc1 := (hbc.cell (p := ⟨br, orr + m * 2, none⟩) hzb).trans kb1
              have kc2 := (hbc.cell (p := ⟨br, orr + m * 2 + 1, none⟩) hzb).trans kb2
              have HBc := Lib.hid (bnext HBb.out hbc)
              have hzc : br < vc.heap.size := by have := hbc.size; omega
              clear hbc))
          | (go_at_call 29
             ((with_reducible refine (withoutItem_any _ (some ⟨br, orr, none⟩) _ cR R (x1, x2) rfl ?_ ?_).mono ?_)
              · exact HRRU.out.below HBc.out (Nat.le_refl _)
              · omega
              rintro e vd ⟨Bd, dd, rfl, hod, hbd⟩
              have kd1 := (hbd.cell (p := ⟨br, orr + m * 2, none⟩) hzc).trans kc1
              have kd2 := (hbd.cell (p := ⟨br, orr + m * 2 + 1, none⟩) hzc).trans kc2
              have HRd := Lib.hid (Rd.of_own hod)
              have HBd := Lib.hid (bnext HBc.out hbd)
              have hzd : br < vd.heap.size := by have := hbd.size; omega
              clear hod hbd))
          | (go_at_call 28
             ((with_reducible refine (withItem_any _ Bd _ dd (R.erase (x1, x2)) (key, x2) rfl ?_ ?_).mono ?_)
              · exact HRd.out
              · omega
              rintro e ve ⟨Be, de, rfl, hoe, hbe⟩
              have ke1 := (hbe.cell (p := ⟨br, orr + m * 2, none⟩) hzd).trans kd1
              have ke2 := (hbe.cell (p := ⟨br, orr + m * 2 + 1, none⟩) hzd).trans kd2
              have HRe := Lib.hid (Rd.of_own hoe)
              have HBe := Lib.hid (bnext HBd.out hbe)
              have hze : br < ve.heap.size := by have := hbe.size; omega
              clear hoe hbe))
          | (go_at_call 27
             ((with_reducible refine (sameElements_perm _ A3 Be _ _ c3 de L (R.erase (x1, x2) ++ [(key, x2)]) ?_ ?_ ?_ ?_ ?_ ?_).mono ?_)
              · rfl
              · first | rfl | simp
              · exact HPL.out
              · exact HRLU.out.below HBe.out (Nat.le_refl _)
              · exact HRe.out
              · omega
              rintro e vf ⟨rfl, hbf⟩
              have kf1 := (hbf.cell (p := ⟨br, orr + m * 2, none⟩) hze).trans ke1
              have kf2 := (hbf.cell (p := ⟨br, orr + m * 2 + 1, none⟩) hze).trans ke2)))
      have HBZ := Lib.hid (bnext (bnext (bnext (bnext HB2.out HBL.out) HBLx.out) HBe.out) hbf)
      clear hbf
      go_wp2
      go_ret
      exact ⟨rfl, HBZ.out⟩

theorem contract (H : Type) (enc : TypeId × Value → H) (W : World) (base : Nat) (args : Array Value) (ds gs : List (DataW H)) (before : List MemPlace)
    (hval : ∀ (j : Nat) t v, Try.f5.params[j]? = some t → args[j]? = some v → Value.okWide Try.prog W .any base t v)
    (hW : DataW.Whole enc Try.prog Try.f5.params.toList Rows.fnQueueFixSpec.vars false W args.toList ds gs before)
    (hsz : (DataW.weightsEach Try.prog (Try.f5.params.toList ++ Rows.fnQueueFixSpec.plain.varTypes Try.prog) (ds ++ gs)).all (· ≤ reachBytes) = true) :
    Calls Try.prog 5 args W fun e W' => ∃ v, e = .returned v ∧ Rows.fnQueueFixSpec.post enc Try.prog Try.f5 false true false false W args v W' := by
  have hW' := hW
  obtain ⟨p, q, hA0, hV, rfl, _, _⟩ := hW
  have hA : DataW.TrodAll enc Try.prog W 0 (fun _ => true) true Try.f5.params.toList args.toList ds p := hA0
  rw [Try.params5] at hA hval hsz
  obtain ⟨v0, v1, v2, d0, d1, d2, p0, p1, p2, rfl, rfl, rfl, h0, h1, h2⟩ := trodAll_three hA
  obtain ⟨rfl, rfl⟩ := trodVars_none hV
  obtain ⟨A0, c0, l0, rfl, hr0, hn0⟩ := open_steps (hval 0 22 v0 rfl rfl) h0 (fun elems spare he => by
    have := sized_slice hsz (j := 0) (t := 22) (e := 57) rfl (by rw [he]; rfl) Try.underlying22
    rw [bytes_lawStep] at this
    exact this)
  obtain ⟨i1, rfl, rfl, rfl, wi1⟩ := open_int Try.underlying3 (hval 1 3 v1 rfl rfl) h1
  obtain ⟨i2, rfl, rfl, rfl, wi2⟩ := open_int Try.underlying3 (hval 2 3 v2 rfl rfl) h2
  have hcall : Calls Try.prog 5 #[.slice A0 l0.length c0, .int .i64 i1, .int .i64 i2] W (Gives W (.bool true)) := walk W A0 c0 l0 i1 i2 hr0 hn0
  refine hcall.mono fun e W' ⟨he, hb⟩ => ⟨_, he, ?_⟩
  exact law_post hW' rfl rfl rfl rfl rfl (by rw [Try.params5]; exact of_decide_eq_true (by kernel_rfl)) hb

set_option maxRecDepth 100000 in
theorem lifted (os : Os) (started : os.Started) (H : Type) (enc : TypeId × Value → H) :
    ReturnsInHanded {} Try.checked os 5 .any (Rows.fnQueueFixSpec.pre6 enc Try.prog Try.f5 Rows.fnQueueFixRow.domain false) (Rows.fnQueueFixSpec.post enc Try.prog Try.f5 false true false false) := by
  refine returnsInHanded_of_change_sized (C := Try.checked) own started (by kernel_rfl) Try.func5
    (ChangeSpec.witness6 (enc := enc) (C := Try.checked) false ⟨#[], #[.slice none 0 0, .int .i64 0, .int .i64 0], []⟩ 8 (by kernel_rfl) (by kernel_rfl) (by kernel_rfl) (by kernel_rfl)) ?_
  intro W base args ds gs before hval hW _ hsz _
  exact contract H enc W base args ds gs before hval hW hsz

theorem proved : Rows.FnQueueFixSaid :=
  OpenClaim.holds_of_wide 5 Try.f5 rfl rfl rfl rfl rfl rfl rfl ⟨rfl, rfl, rfl, rfl, rfl⟩ rfl rfl rfl rfl rfl (by kernel_rfl) Try.func5 (by kernel_rfl)
    (of_decide_eq_true (by kernel_rfl)) (by unfold Func.isWrapper; first | (rw [if_pos (by decide +kernel)]; kernel_rfl) | (rw [if_neg (by decide +kernel)]; exact ⟨rfl, rfl⟩))
    (fun os started H enc _ => lifted os started H enc)
end Go.Proofs.Ytpjdpcpcfcohiaa.fnQueueFix
