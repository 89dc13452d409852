/-
  FnQueueHeap returns true for every script. Condition: the reach of a slice that every statement bears.
-/
import Derived.Test.YtpjdpcpcfcohiaaDeskI
import Derived.Test.YtpjdpcpcfcohiaaOpenS
import Derived.IntWalk
namespace Go.Proofs.Ytpjdpcpcfcohiaa.fnQueueHeap
open Go.ChangeShapes Go.WideShapes Go.ChangeAt Go.RowKit Go.Shelf Go.Deep Go.Joins
open Hp (g swp Ev St plc ix qOut qRest pushed nums qHeap idxs)

theorem len_heap (ss : List St) : (qHeap ss).length = (qRest ss).length := (Hp.qHeap_rest ss).length_eq
theorem ix_step {r : List It} (hn : (nums r).Nodup) {j : Nat} (hj : j < r.length) (n : Int) : ix (r.take (j + 1)) n = if n = (g r j).2 then (j : Int) else ix (r.take j) n := by
  have hs : (nums (r.take (j + 1))).Nodup := by
    have : (nums (r.take (j + 1))).Sublist (nums r) := (List.take_sublist _ _).map _
    exact hn.sublist this
  rw [take_succ_g r j hj] at hs ⊢
  have hs2 := hs
  simp only [nums, List.map_append, List.map_cons, List.map_nil] at hs2
  rw [List.nodup_append] at hs2
  have h := Hp.ix_append (x := g r j) hs2.1 (fun h => hs2.2.2 _ h _ (List.mem_singleton_self _) rfl) n
  rw [h, List.length_take, Nat.min_eq_left (by omega)]

set_option maxHeartbeats 4000000 in
set_option maxRecDepth 100000 in
theorem walk (w : World) (As : Option Addr) (cs : Nat) (ss : List St) (hrs : Rd w As (clsT ss)) (hns : ss.length * 32 ≤ 140737488351232) :
    Calls Try.prog 12 #[.slice As ss.length cs] w (Gives w (.bool true)) := by
  have HRS := Lib.hid hrs
  have hsl : ss.length ≤ 4398046510976 := by omega
  clear hrs hns
  go_enter Try.func12, Try.ntmps12
  go_wp2_with fail
  refine (toStepS_any _ As _ cs ss rfl HRS.out (by omega)).mono ?_
  rintro e w1 ⟨A1, c1, rfl, ho1, hb1⟩
  have HO1 := Lib.hid (Rd.of_own ho1)
  have HB1 := Lib.hid hb1
  clear ho1 hb1
  go_wp2_with fail
  refine (indexes_law w1 A1 _ c1 ss rfl HO1.out (by omega)).mono ?_
  rintro e w2 ⟨a, b, A2, c2, A3, c3, ⟨ea, eb⟩, rfl, ho2, ho3, hb2⟩
  have hpl := Hp.pushed_le ss
  have hal : a.length = pushed ss := by rw [ea, Hp.length_idxs]
  have hbl : b.length = (qRest ss).length := by rw [eb, ← len_heap]; simp
  have hrl := (q_lens ss).2.1
  have hn1 : ((a.length : Int) != ((pushed ss : Nat) : Int)) = false := by rw [hal]; simp
  have hals : a.length ≤ ss.length := by omega
  have hbls : b.length ≤ ss.length := by omega
  have HEB := Lib.hid eb
  have HBL := Lib.hid hbl
  have HRB := Lib.hid (Rd.of_own ho3)
  have HB2 := Lib.hid (bnext HB1.out hb2)
  clear ea eb ho2 ho3 hb2 hal hbl hrl HO1 HB1
  go_wp2_with fail
  refine (toStepS_any _ As _ cs ss rfl (HRS.out.below HB2.out (Nat.le_refl _)) (by omega)).mono ?_
  rintro e w4 ⟨A4, c4, rfl, ho4, hb4⟩
  have HO4 := Lib.hid (Rd.of_own ho4)
  have HB24 := Lib.hid hb4
  clear ho4 hb4
  go_wp2_with fail
  refine (rest_law w4 A4 _ c4 ss rfl HO4.out (by omega)).mono ?_
  rintro e w5 ⟨r, A5, c5, er, rfl, ho5, hb5⟩
  have hn2 : ((r.length : Int) != (b.length : Int)) = false := by rw [HBL.out, er]; simp
  have hrs2 : r.length ≤ ss.length := by have h9 := HBL.out; rw [← er] at h9; omega
  have HRR := Lib.hid (Rd.of_own ho5)
  have HB25 := Lib.hid (bnext HB24.out hb5)
  have HER := Lib.hid er
  clear er ho5 hb5 HO4 HB24 HBL
  go_wp2_with fail
  refine (made_any w5 As ss.length cs ss rfl (HRS.out.below (bnext HB2.out HB25.out) (Nat.le_refl _)) (by omega)).mono ?_
  rintro e w6 ⟨rfl, hb6⟩
  have HRR6 := Lib.hid (HRR.out.below hb6 (Nat.le_refl _))
  have HB26 := Lib.hid (bnext HB25.out hb6)
  have HRB6 := Lib.hid (HRB.out.below HB26.out (Nat.le_refl _))
  have HB6 := Lib.hid (bnext HB2.out HB26.out)
  clear hb6 HRR HB25 HRB HB2 HB26
  obtain ⟨P, hP⟩ : ∃ P, P = b.map (ix r) := ⟨_, rfl⟩
  have hPl : P.length = b.length := by rw [hP]; simp
  have HPL := Lib.hid hPl
  have HPG := Lib.hid (show ∀ k, k < b.length → g P k = ix r (g b k) ∧ g b k ∈ nums r from fun k hk => by
    refine ⟨by rw [hP, ← Hp.g_eq (by simpa using hk), List.getElem_map, Hp.g_eq hk], ?_⟩
    have hm := Hp.mem_g hk
    rw [HEB.out] at hm ⊢
    rw [HER.out]
    rw [← HEB.out] at hm ⊢
    exact (Hp.nums_perm (Hp.qHeap_rest ss)).mem_iff.1 (by rw [← HEB.out]; exact hm))
  have HPO := Lib.hid (show ∀ j, 0 < j → j < b.length → g P ((j - 1) / 2) ≤ g P j from fun j h0 hj => by
    have h9 := Hp.places_order ss j h0 (by rw [HEB.out] at hj; simpa using hj)
    have e : ∀ k, k < b.length → g P k = ix (qRest ss) (g (qHeap ss) k).2 := fun k hk => by
      rw [hP, ← Hp.g_eq (by simpa using hk), List.getElem_map, Hp.g_eq hk, HER.out, HEB.out]
      rw [HEB.out] at hk
      rw [← Hp.g_eq hk, Hp.nums_at (by simpa using hk)]
    rw [e _ (by omega), e _ hj]
    exact h9)
  have HND := Lib.hid (show (nums r).Nodup by rw [HER.out]; exact Hp.qRest_nodup ss)
  clear hP hPl HEB HER
  go_wp2_with fail
  go_loopw [6, 36] (fun s6 s36 wr => ∃ (k : Nat) (A7 : Option Addr) (c7 : Nat), s36 = .int .i64 (k : Int) ∧ k ≤ b.length ∧ s6 = .slice A7 k c7 ∧ Aside (wr.ownsRow w6.heap.size 3 1 (.slice A7 k c7) k (clsN (P.take k))) ∧ Below w6.heap.size w6 wr)
    (fun _ s36 _ => b.length - (intOf s36).toNat)
  case atStart => exact ⟨0, none, 0, rfl, by omega, rfl, World.ownsRow_nil _ _ _ _, Below.refl _ _⟩
  case round =>
    obtain ⟨k, A7, c7, rfl, hk, rfl, hown, hb⟩ := hrel
    have hsz := hb.size
    by_cases hlt : k < b.length
    · obtain ⟨bb, ob, hA, hbb, h1⟩ := (HRB6.out.below hb (Nat.le_refl _)).atN k hlt
      subst hA
      obtain ⟨hgP, hgm⟩ := HPG.out k hlt
      obtain ⟨v, hv⟩ : ∃ v, g b k = v := ⟨_, rfl⟩
      rw [hv] at h1 hgP hgm
      obtain ⟨p, hp, hp1, hp2⟩ := Hp.ix_mem hgm
      rw [hp1] at hgP
      have HGP := Lib.hid hgP
      have HPX := Lib.hid (show ix (r.take r.length) v = (p : Int) by rw [List.take_length]; exact hp1)
      have HOW := Lib.hid hown.out
      have HBW := Lib.hid hb
      obtain ⟨wo, rfl⟩ : ∃ wo : World, wo = wr := ⟨_, rfl⟩
      clear hgP hv hgm hp1 hp2 hown hb
      go_wp2_with fail
      go_loopw [9, 42] (fun s9 s42 wi => ∃ (j : Nat), s42 = .int .i64 (j : Int) ∧ j ≤ r.length ∧ s9 = .int .i64 (ix (r.take j) v) ∧ Below wo.heap.size wo wi) (fun _ s42 _ => r.length - (intOf s42).toNat)
      case atStart => exact ⟨0, rfl, by omega, rfl, Below.refl _ _⟩
      case round =>
        obtain ⟨j, rfl, hj, rfl, hbi⟩ := hrel
        have hszi := hbi.size
        by_cases hjl : j < r.length
        · obtain ⟨br, orr, hAr, hbr, q1, q2⟩ := ((HRR6.out.below HBW.out (Nat.le_refl _)).below hbi (by omega)).at_ j hjl
          subst hAr
          have hst := ix_step HND.out hjl v
          obtain ⟨⟨y1, y2⟩, hy⟩ : ∃ y, g r j = y := ⟨_, rfl⟩
          rw [hy] at q1 q2 hst
          have HB3 := Lib.hid (hbi.alloc hszi (.cells #[.int .i64 y1, .int .i64 y2] 34))
          obtain ⟨z, hz⟩ : ∃ z, z = ix (r.take j) v := ⟨_, rfl⟩
          rw [← hz] at hst ⊢
          clear hy hbi hz
          by_cases hyv : y2 = v
          · subst hyv
            rw [if_pos rfl] at hst
            have HST := Lib.hid hst
            clear hst
            go_wp2
            go_roundw
            case rel => exact ⟨j + 1, by go_num, by omega, by rw [HST.out], HB3.out⟩
            case measure => simp [intOf]; omega
          · rw [if_neg (fun e => hyv e.symm)] at hst
            have HST := Lib.hid hst
            have hb1 : (y2 == v) = false := by simpa using hyv
            clear hst hyv
            go_wp2
            go_roundw
            case rel => exact ⟨j + 1, by go_num, by omega, by rw [HST.out], HB3.out⟩
            case measure => simp [intOf]; omega
        · have hjr : j = r.length := by omega
          subst hjr
          rw [HPX.out]
          have hp0 : decide ((p : Int) < 0) = false := decide_eq_false (by omega)
          have hp3 : (0 : Int) ≤ (p : Int) := by omega
          obtain ⟨Z, hZ⟩ : ∃ Z, Z = P.take k := ⟨_, rfl⟩
          have hZl : Z.length = k := by rw [hZ, List.length_take, HPL.out]; omega
          have hz := heap_alloc_new wr (.cells #[.int .i64 (p : Int)] 3)
          have hbw := bnext HBW.out hbi
          have hb3 := hbw.alloc hbw.size (.cells #[.int .i64 (p : Int)] 3)
          have ho3 : (wr.alloc (.cells #[.int .i64 (p : Int)] 3)).ownsRow w6.heap.size 3 1 (.slice A7 k c7) Z.length (clsN Z) := by
            rw [hZl, hZ]
            exact (own_below HOW.out hbi).alloc _
          obtain ⟨A8, c8, w8, hrun, ho8, hg8, _⟩ := run_append_int Try.underlying38 ho3 (p : Int) wr.heap.size hz (by rw [hZl]; omega) (by have := hbw.size; simp; omega) 38
          rw [hZl] at hrun ho8
          have HRUN := Lib.hid hrun
          have HO8 := Lib.hid (show w8.ownsRow w6.heap.size 3 1 (.slice A8 (k + 1) c8) (k + 1) (clsN (P.take (k + 1))) by
            rw [take_succ_g P k (by rw [HPL.out]; exact hlt), HGP.out, ← hZ]
            exact ho8)
          have HB8 := Lib.hid (hb3.grown hg8 hb3.size (fun j hj => (ho3.lt j hj).1))
          clear hZ hZl hz hbw hb3 ho3 hrun ho8 hg8 hbi
          go_wp2_with (at_builtin; refine wpList_append_run rfl _ _ _ rfl _ _ _ _ rfl rfl HRUN.out ?_)
          go_roundw
          case rel => exact ⟨k + 1, A8, c8, by go_num, by omega, rfl, HO8.out, HB8.out⟩
          case measure => simp [intOf]; omega
    · have hkl : k = b.length := by omega
      subst hkl
      have ho := hown.out
      rw [List.take_of_length_le (by rw [HPL.out]; exact Nat.le_refl _)] at ho
      have HRP := Lib.hid (Rd.of_own ho)
      have HBW := Lib.hid hb
      obtain ⟨wo, rfl⟩ : ∃ wo : World, wo = wr := ⟨_, rfl⟩
      clear hown ho hb
      go_wp2_with fail
      go_loopw [12] (fun s12 wi => ∃ (j q : Nat), s12 = .int .i64 (j : Int) ∧ 1 ≤ j ∧ j ≤ b.length + 1 ∧ wi = wo.drewN q) (fun s12 _ => b.length + 1 - (intOf s12).toNat)
      case atStart => exact ⟨1, 0, rfl, by omega, by omega, rfl⟩
      case round =>
        obtain ⟨j, q, rfl, hj1, hj, rfl⟩ := hrel
        by_cases hjl : j < b.length
        · obtain ⟨b1, o1, hA1, _, q1⟩ := HRP.out.atN j (by rw [HPL.out]; exact hjl)
          obtain ⟨b2, o2, hA2, _, q2⟩ := HRP.out.atN ((j - 1) / 2) (by rw [HPL.out]; omega)
          subst hA1
          injection hA2 with hA2
          injection hA2 with e1 e2 _
          subst e1
          subst e2
          have hle := HPO.out j (by omega) hjl
          obtain ⟨y, hy⟩ : ∃ y, g P j = y := ⟨_, rfl⟩
          obtain ⟨z, hz⟩ : ∃ z, g P ((j - 1) / 2) = z := ⟨_, rfl⟩
          rw [hy] at q1 hle
          rw [hz] at q2 hle
          have hd : ((j : Int) - 1) / 2 = (((j - 1) / 2 : Nat) : Int) := by omega
          have hle2 : ¬ y < z := by omega
          clear hy hz
          go_wp2_with fail
          go_quiet (fail)
          go_wp2
          go_roundw
          case rel => exact ⟨j + 1, q + nq, by go_num, by omega, by omega, rfl⟩
          case measure => simp [intOf]; omega
        · go_wp2
          go_ret
          exact ⟨rfl, below_drewN (bnext HB6.out HBW.out) _⟩

theorem contract (H : Type) (enc : TypeId × Value → H) (W : World) (base : Nat) (args : Array Value) (ds gs : List (DataW H)) (before : List MemPlace)
    (hval : ∀ (j : Nat) t v, Try.f12.params[j]? = some t → args[j]? = some v → Value.okWide Try.prog W .any base t v)
    (hW : DataW.Whole enc Try.prog Try.f12.params.toList Rows.fnQueueHeapSpec.vars false W args.toList ds gs before)
    (hsz : (DataW.weightsEach Try.prog (Try.f12.params.toList ++ Rows.fnQueueHeapSpec.plain.varTypes Try.prog) (ds ++ gs)).all (· ≤ reachBytes) = true) :
    Calls Try.prog 12 args W fun e W' => ∃ v, e = .returned v ∧ Rows.fnQueueHeapSpec.post enc Try.prog Try.f12 false true false false W args v W' := by
  have hW' := hW
  obtain ⟨p, q, hA0, hV, rfl, _, _⟩ := hW
  have hA : DataW.TrodAll enc Try.prog W 0 (fun _ => true) true Try.f12.params.toList args.toList ds p := hA0
  rw [Try.params12] at hA hval hsz
  obtain ⟨v0, d0, rfl, rfl, h0⟩ := trodAll_one hA
  obtain ⟨rfl, rfl⟩ := trodVars_none hV
  obtain ⟨A0, c0, l0, rfl, hr0, hn0⟩ := open_steps (hval 0 22 v0 rfl rfl) h0 (fun elems spare he => by
    have := sized_slice hsz (j := 0) (t := 22) (e := 57) rfl (by rw [he]; rfl) Try.underlying22
    rw [bytes_lawStep] at this
    exact this)
  have hcall : Calls Try.prog 12 #[.slice A0 l0.length c0] W (Gives W (.bool true)) := walk W A0 c0 l0 hr0 hn0
  refine hcall.mono fun e W' ⟨he, hb⟩ => ⟨_, he, ?_⟩
  exact law_post hW' rfl rfl rfl rfl rfl (by rw [Try.params12]; exact of_decide_eq_true (by kernel_rfl)) hb

set_option maxRecDepth 100000 in
theorem lifted (os : Os) (started : os.Started) (H : Type) (enc : TypeId × Value → H) :
    ReturnsInHanded {} Try.checked os 12 .any (Rows.fnQueueHeapSpec.pre6 enc Try.prog Try.f12 Rows.fnQueueHeapRow.domain false) (Rows.fnQueueHeapSpec.post enc Try.prog Try.f12 false true false false) := by
  refine returnsInHanded_of_change_sized (C := Try.checked) own started (by kernel_rfl) Try.func12
    (ChangeSpec.witness6 (enc := enc) (C := Try.checked) false ⟨#[], #[.slice none 0 0], []⟩ 8 (by kernel_rfl) (by kernel_rfl) (by kernel_rfl) (by kernel_rfl)) ?_
  intro W base args ds gs before hval hW _ hsz _
  exact contract H enc W base args ds gs before hval hW hsz

theorem proved : Rows.FnQueueHeapSaid :=
  OpenClaim.holds_of_wide 12 Try.f12 rfl rfl rfl rfl rfl rfl rfl ⟨rfl, rfl, rfl, rfl, rfl⟩ rfl rfl rfl rfl rfl (by kernel_rfl) Try.func12 (by kernel_rfl)
    (of_decide_eq_true (by kernel_rfl)) (by unfold Func.isWrapper; first | (rw [if_pos (by decide +kernel)]; kernel_rfl) | (rw [if_neg (by decide +kernel)]; exact ⟨rfl, rfl⟩))
    (fun os started H enc _ => lifted os started H enc)
end Go.Proofs.Ytpjdpcpcfcohiaa.fnQueueHeap
