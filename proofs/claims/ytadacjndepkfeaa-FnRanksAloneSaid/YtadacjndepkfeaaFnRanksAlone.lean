/-
  FnRanksAlone returns true for every list of items and every script. Condition: the reach of a slice that every statement bears.
-/
import Derived.Test.YtadacjndepkfeaaRank
import Derived.Test.YtadacjndepkfeaaOpenS
namespace Go.Proofs.Ytadacjndepkfeaa.fnRanksAlone
open Go.ChangeShapes Go.WideShapes Go.ChangeAt Go.RowKit Go.Shelf Go.Deep Go.Joins
open Hp (g swp Ev St plc)

def fR (K : List Int) (x : It) : It := ((rank K x.1 : Int), x.2)
def FR (K : List Int) (s : St) : St := (s.1, s.2.1, (rank K s.2.2.1 : Int), s.2.2.2)
theorem ranks_fin {l : List It} {ss : List St} {S S2 : List (List It)} {O O2 : List It} (K : List Int) (hK : K = l.map Prod.fst ++ ss.map (fun s => s.2.2.1)) (h : RunF (Hp.init ltK l) ss S O) (h2 : RunF (Hp.init ltK (l.map (fR K))) (ss.map (FR K)) S2 O2) : S2 = S.map (List.map (fR K)) := by
  have hf : ∀ a b : It, a.1 ∈ K → b.1 ∈ K → ltK (fR K a) (fR K b) = ltK a b := by
    intro a b ha _
    unfold ltK fR
    simp only [decide_eq_decide]
    exact rank_order K ha
  have hl : ∀ a ∈ l, a.1 ∈ K := fun a ha => by rw [hK]; exact List.mem_append_left _ (List.mem_map_of_mem ha)
  rw [h2.eqS, h.eqS, Hp.init_map (P := fun a => a.1 ∈ K) hf l hl]
  refine Hp.sts_map (P := fun a => a.1 ∈ K) hf mkI mkI (FR K) ss _ (Hp.P_perm hl (Hp.perm_init ltK l)) (fun s hs => ⟨?_, rfl, rfl, rfl⟩)
  rw [hK]
  exact List.mem_append_right _ (List.mem_map_of_mem (f := fun s : St => s.2.2.1) hs)
theorem ranks_at {S S2 : List (List It)} {K : List Int} (h : S2 = S.map (List.map (fR K))) (k : Nat) (hk : k < S.length) : (g S2 k).length = (g S k).length ∧ ∀ j, j < (g S k).length → (g (g S2 k) j).2 = (g (g S k) j).2 := by
  have e : g S2 k = (g S k).map (fR K) := by
    rw [h, ← Hp.g_eq (by simpa using hk), ← Hp.g_eq hk]; simp
  rw [e]
  refine ⟨by simp, fun j hj => ?_⟩
  rw [Hp.g_map hj]
  rfl
theorem own_keep {w w' : World} {row : Option Nat} {B1 B2 : Nat} {e1 e2 : TypeId} {z1 z2 n1 n2 : Nat} {v1 v2 : Value} {x1 x2 : List Value} (h1 : w.ownsRow B1 e1 z1 v1 n1 x1) (h2 : w.ownsRow B2 e2 z2 v2 n2 x2) (hne : e1 ≠ e2) (hr : row = v2.ownBlock) (hg : w.grownBy w' row) : w'.ownsRow B1 e1 z1 v1 n1 x1 :=
  own_frm (X := fun k => row = some k) h1 (Frm.of_grown hg (fun _ e => e)) (fun k hk e => own_apart h1 h2 hne k hk (by rw [← hr]; exact e))

set_option maxHeartbeats 2000000 in
set_option maxRecDepth 100000 in
theorem walk (w : World) (A : Option Addr) (c : Nat) (l : List It) (As : Option Addr) (cs : Nat) (ss : List St) (hr : Rd w A (cls l)) (hn : l.length * 16 ≤ 140737488351232) (hrs : Rd w As (clsT ss)) (hns : ss.length * 32 ≤ 140737488351232) :
    Calls Try.prog 7 #[.slice A l.length c, .slice As ss.length cs] w (Gives w (.bool true)) := by
  have hln : l.length + ss.length + 1 ≤ 13194139537408 := by omega
  have HR := Lib.hid hr
  have HRS := Lib.hid hrs
  clear hr hrs
  go_enter Try.func7, Try.ntmps7
  go_wp2_with fail
  refine (toItems_any _ A _ c l rfl (HR.out.below (Below.refl w.heap.size w) (Nat.le_refl _)) (m16 (by omega))).mono ?_
  rintro e w1 ⟨A1, c1, rfl, ho1, hb1⟩
  have HRD1 := Lib.hid (Rd.of_own ho1)
  have HB1 := Lib.hid (bnext (Below.refl w.heap.size w) hb1)
  clear ho1 hb1
  go_wp2_with fail
  refine (toStepS_any _ As _ cs ss rfl (HRS.out.below HB1.out (Nat.le_refl _)) (by omega)).mono ?_
  rintro e w2 ⟨A2, c2, rfl, ho2, hb2⟩
  have HRD2 := Lib.hid (Rd.of_own ho2)
  have HRI2 := Lib.hid (HRD1.out.below hb2 (Nat.le_refl _))
  have HB2 := Lib.hid (bnext HB1.out hb2)
  clear ho2 hb2
  go_wp2_with fail
  refine (run_law w2 A1 A2 _ c1 _ c2 l ss rfl rfl HRI2.out HRD2.out hln (by omega)).mono ?_
  rintro e w3 ⟨S, O, A3, c3, Ao, co, vs, hF, rfl, hrow, hss, hout, hb3⟩
  have HF := Lib.hid hF
  have hS1 : ((S.length : Int) == (ss.length : Int) + 1) = true := by rw [hF.len]; simp
  have hS2 : ((S.length : Int) != (ss.length : Int) + 1) = false := by rw [hF.len]; simp
  have hSL : S.length ≤ ss.length + 1 := Nat.le_of_eq hF.len
  have hSG : ss.length + 1 ≤ S.length := Nat.le_of_eq hF.len.symm
  have hOL : O.length ≤ ss.length := hF.outl
  have HROW := Lib.hid hrow
  have HSS := Lib.hid hss
  have HOUT := Lib.hid hout
  have HB3 := Lib.hid (bnext HB2.out hb3)
  clear hF hrow hss hout hb3
  go_wp2_with fail
  refine (toItems_any _ A _ c l rfl (HR.out.below HB3.out (Nat.le_refl _)) (m16 (by omega))).mono ?_
  rintro e w4 ⟨A4, c4, rfl, ho4, hb4⟩
  have HB4 := Lib.hid hb4
  have HO4 := Lib.hid ho4
  clear ho4 hb4
  go_wp2_with fail
  refine (toStepS_any _ As _ cs ss rfl (HRS.out.below (bnext HB3.out HB4.out) (Nat.le_refl _)) (by omega)).mono ?_
  rintro e w5 ⟨A5, c5, rfl, ho5, hb5⟩
  have HO5 := Lib.hid (own_base ho5 HB4.out.size)
  have HO45 := Lib.hid (own_frm (X := fun _ => False) HO4.out (Frm.of_new hb5) (fun _ _ h => h))
  have HB5 := Lib.hid (bnext HB4.out hb5)
  clear ho5 hb5 HO4
  go_wp2_with fail
  refine (keysOf_any _ A4 _ c4 l rfl (Rd.of_own HO45.out) (by omega)).mono ?_
  obtain ⟨K0, hK0⟩ : ∃ K0, K0 = l.map Prod.fst := ⟨_, rfl⟩
  have hK0l : K0.length ≤ l.length := by rw [hK0]; simp
  rw [← hK0]
  rintro e w6 ⟨A6, c6, rfl, ho6, hb6⟩
  have HO6 := Lib.hid (own_base ho6 HB5.out.size)
  have HO46 := Lib.hid (own_frm (X := fun _ => False) HO45.out (Frm.of_new hb6) (fun _ _ h => h))
  have HO56 := Lib.hid (own_frm (X := fun _ => False) HO5.out (Frm.of_new hb6) (fun _ _ h => h))
  have HB6 := Lib.hid (bnext HB5.out hb6)
  have HK0 := Lib.hid hK0
  clear ho6 hb6 HO45 HO5 HB5 hK0
  go_wp2_with fail
  go_loopw [9, 34] (fun s9 s34 wr => ∃ (k : Nat) (Aq : Option Addr) (cq : Nat) (Kl : List Int), s34 = .int .i64 (k : Int) ∧ k ≤ ss.length ∧ s9 = .slice Aq Kl.length cq ∧ Kl.length ≤ l.length + k ∧ Aside (wr.ownsRow w3.heap.size 3 1 (.slice Aq Kl.length cq) Kl.length (clsN Kl)) ∧
      Aside (wr.ownsRow w3.heap.size 36 2 (.slice A4 l.length c4) l.length (cls l)) ∧ Aside (wr.ownsRow w3.heap.size 45 4 (.slice A5 ss.length c5) ss.length (clsT ss)) ∧ Below w3.heap.size w3 wr ∧ Hid (Kl = l.map Prod.fst ++ (ss.take k).map (fun s => s.2.2.1)))
    (fun _ s34 _ => ss.length - (intOf s34).toNat)
  case atStart => exact ⟨0, A6, c6, K0, rfl, by omega, rfl, by omega, HO6.out, HO46.out, HO56.out, HB6.out, by simp [Hid, HK0.out]⟩
  case round =>
    obtain ⟨k, Aq, cq, Kl, rfl, hk, rfl, hKl, hq, hy, ht, hbw, HKL⟩ := hrel
    clear HO6 HO46 HO56 HB6 HK0 hK0l
    have hsz := hbw.size
    by_cases hlt : k < ss.length
    · obtain ⟨b, o, hA5, hbb, h1, h2, h3, h4⟩ := (Rd.of_own ht.out).atT k hlt
      have htk := Hp.take_succ_st ss k hlt
      obtain ⟨⟨q, a, kk, t⟩, hs⟩ : ∃ s, g ss k = s := ⟨_, rfl⟩
      rw [hs] at h1 h2 h3 h4 htk
      have HE := Lib.hid (show Kl ++ [kk] = l.map Prod.fst ++ (ss.take (k + 1)).map (fun s => s.2.2.1) by rw [htk, HKL.out]; simp)
      subst hA5
      have hzz := heap_alloc_new (wr.alloc (.cells #[.int .i64 q, .int .i64 a, .int .i64 kk, .int .i64 t] 45)) (.cells #[.int .i64 kk] 3)
      rw [heap_size_alloc] at hzz
      have HZZ := Lib.hid hzz
      have HLE := Lib.hid (show Kl.length + 1 ≤ 26388279066624 by omega)
      have HLB := Lib.hid (show w3.heap.size ≤ ((wr.alloc (.cells #[.int .i64 q, .int .i64 a, .int .i64 kk, .int .i64 t] 45)).alloc (.cells #[.int .i64 kk] 3)).heap.size by simp; omega)
      have HQ := Lib.hid ((hq.out.alloc (.cells #[.int .i64 q, .int .i64 a, .int .i64 kk, .int .i64 t] 45)).alloc (.cells #[.int .i64 kk] 3))
      have HY := Lib.hid ((hy.out.alloc (.cells #[.int .i64 q, .int .i64 a, .int .i64 kk, .int .i64 t] 45)).alloc (.cells #[.int .i64 kk] 3))
      have HT := Lib.hid ((ht.out.alloc (.cells #[.int .i64 q, .int .i64 a, .int .i64 kk, .int .i64 t] 45)).alloc (.cells #[.int .i64 kk] 3))
      have HB1 := Lib.hid ((hbw.alloc hsz (.cells #[.int .i64 q, .int .i64 a, .int .i64 kk, .int .i64 t] 45)).alloc (by simp; omega) (.cells #[.int .i64 kk] 3))
      clear hs htk hzz hq hy ht hbw
      go_wp2_with (at_builtin; refine wpList_append_int rfl _ _ rfl _ w3.heap.size Kl kk (wr.heap.size + 1) rfl rfl HQ.out HZZ.out HLE.out HLB.out ?_)
      intro A7 c7 w7 ho7 hg7
      have HO7 := Lib.hid ho7
      have HY7 := Lib.hid (own_keep HY.out HQ.out (by decide) rfl hg7)
      have HT7 := Lib.hid (own_keep HT.out HQ.out (by decide) rfl hg7)
      have HB7 := Lib.hid (HB1.out.grown hg7 HLB.out (fun kk2 hkk => (HQ.out.lt kk2 hkk).1))
      clear ho7 hg7 h1 h2 h3 h4
      go_wp2
      go_roundw
      case rel => exact ⟨k + 1, A7, c7, Kl ++ [kk], by go_num, by omega, by rw [List.length_append]; rfl, by rw [List.length_append]; simp; omega, by rw [List.length_append]; exact HO7.out, HY7.out, HT7.out, HB7.out, HE⟩
      case measure => simp [intOf]; omega
    · have hkl : k = ss.length := by omega
      have HKE := Lib.hid (show Kl = l.map Prod.fst ++ ss.map (fun s => s.2.2.1) by have := HKL.out; rwa [hkl, List.take_of_length_le (Nat.le_refl _)] at this)
      have HQ := Lib.hid hq.out
      have HY := Lib.hid hy.out
      have HT := Lib.hid ht.out
      have HBW := Lib.hid hbw
      have hKn : Kl.length ≤ 26388279066624 := by omega
      obtain ⟨wa, hwa⟩ : ∃ wa, wa = wr := ⟨_, rfl⟩
      rw [← hwa] at HQ HY HT HBW ⊢
      clear hkl hq hy ht hbw hwa HKL
      go_wp2_with fail
      go_loopw [46] (fun s46 wr => ∃ (k : Nat), s46 = .int .i64 (k : Int) ∧ k ≤ l.length ∧ Aside (wr.ownsRow w3.heap.size 3 1 (.slice Aq Kl.length cq) Kl.length (clsN Kl)) ∧ Aside (wr.ownsRow w3.heap.size 36 2 (.slice A4 l.length c4) l.length (cls (mt (fR Kl) l k))) ∧
          Aside (wr.ownsRow w3.heap.size 45 4 (.slice A5 ss.length c5) ss.length (clsT ss)) ∧ Below w3.heap.size w3 wr)
        (fun s46 _ => l.length - (intOf s46).toNat)
      case atStart => exact ⟨0, rfl, by omega, HQ.out, by rw [mt_zero]; exact HY.out, HT.out, HBW.out⟩
      case round =>
        obtain ⟨k, rfl, hk, hq, hy, ht, hbw⟩ := hrel
        clear HQ HY HT HBW
        by_cases hlt : k < l.length
        · obtain ⟨gb, hA4, hg1, hg2⟩ := own_addr hy.out (by omega)
          subst hA4
          have hml := length_mt (fR Kl) l k
          have ci := (hy.out.cellAt (k * 2) (by omega)).trans (cls_at (mt (fR Kl) l k) k (by omega)).1
          have hf := fun j => hy.out.frozenAt j
          rw [g_mt (fR Kl) l k hlt] at ci
          obtain ⟨x, hx⟩ : ∃ x, (g l k).1 = x := ⟨_, rfl⟩
          rw [hx] at ci
          have hy1 := own_key hy.out (i := k) (by omega) (rank Kl x : Int)
          rw [g_mt (fR Kl) l k hlt, ← hx, show (((rank Kl (g l k).1 : Nat) : Int), (g l k).2) = fR Kl (g l k) from rfl, mt_succ (fR Kl) l k hlt, hx] at hy1
          obtain ⟨r, hr⟩ : ∃ r, r = rank Kl x := ⟨_, rfl⟩
          have hcq := qKeysLess_any wr Aq Kl.length cq Kl x rfl (Rd.of_own hq.out) hKn
          rw [← hr] at hy1 hcq
          have HCQ := Lib.hid hcq
          have HY := Lib.hid hy1
          have HT := Lib.hid (ownsRow_setCell_other (a := ⟨gb, k * 2, none⟩) ht.out (fun e => own_apart hy.out ht.out (by decide) gb rfl e) (.int .i64 (r : Int)))
          have HQ := Lib.hid (ownsRow_setCell_other (a := ⟨gb, k * 2, none⟩) hq.out (fun e => own_apart hy.out hq.out (by decide) gb rfl e) (.int .i64 (r : Int)))
          have HBW := Lib.hid (hbw.setCell (p := ⟨gb, k * 2, none⟩) hg1 (.int .i64 (r : Int)))
          clear hml hy ht hbw hq hy1 hcq hr hx
          go_wp2_with (go_at_call 30; refine HCQ.out.mono ?_; rintro e w' ⟨rfl, rfl⟩)
          go_roundw
          case rel => exact ⟨k + 1, by go_num, by omega, HQ.out, HY.out, HT.out, HBW.out⟩
          case measure => simp [intOf]; omega
        · have hkl : k = l.length := by omega
          have HY := Lib.hid (show wr.ownsRow w3.heap.size 36 2 (.slice A4 l.length c4) l.length (cls (l.map (fR Kl))) by have := hy.out; rwa [hkl, mt_all] at this)
          have HQ := Lib.hid hq.out
          have HT := Lib.hid ht.out
          have HBW := Lib.hid hbw
          obtain ⟨wb, hwb⟩ : ∃ wb, wb = wr := ⟨_, rfl⟩
          rw [← hwb] at HQ HY HT HBW ⊢
          clear hkl hq hy ht hbw hwb
          go_wp2_with fail
          go_loopw [63] (fun s63 wr => ∃ (k : Nat), s63 = .int .i64 (k : Int) ∧ k ≤ ss.length ∧ Aside (wr.ownsRow w3.heap.size 3 1 (.slice Aq Kl.length cq) Kl.length (clsN Kl)) ∧ Aside (wr.ownsRow w3.heap.size 36 2 (.slice A4 l.length c4) l.length (cls (l.map (fR Kl)))) ∧
              Aside (wr.ownsRow w3.heap.size 45 4 (.slice A5 ss.length c5) ss.length (clsT (mt (FR Kl) ss k))) ∧ Below w3.heap.size w3 wr)
            (fun s63 _ => ss.length - (intOf s63).toNat)
          case atStart => exact ⟨0, rfl, by omega, HQ.out, HY.out, by rw [mt_zero]; exact HT.out, HBW.out⟩
          case round =>
            obtain ⟨k, rfl, hk, hq, hy, ht, hbw⟩ := hrel
            clear HQ HY HT HBW
            by_cases hlt : k < ss.length
            · obtain ⟨gb, hA5, hg1, hg2⟩ := own_addr ht.out (by omega)
              subst hA5
              have hml := length_mt (FR Kl) ss k
              have ci := (ht.out.cellAt (k * 4 + 2) (by omega)).trans (clsT_at (mt (FR Kl) ss k) k (by omega)).2.2.1
              have hf := fun j => ht.out.frozenAt j
              rw [g_mt (FR Kl) ss k hlt] at ci
              obtain ⟨x, hx⟩ : ∃ x, (g ss k).2.2.1 = x := ⟨_, rfl⟩
              rw [hx] at ci
              have ht1 := own_keyT ht.out (i := k) (by omega) (rank Kl x : Int)
              rw [g_mt (FR Kl) ss k hlt, ← hx, show ((g ss k).1, (g ss k).2.1, ((rank Kl (g ss k).2.2.1 : Nat) : Int), (g ss k).2.2.2) = FR Kl (g ss k) from rfl, mt_succ (FR Kl) ss k hlt, hx] at ht1
              obtain ⟨r, hr⟩ : ∃ r, r = rank Kl x := ⟨_, rfl⟩
              have hcq := qKeysLess_any wr Aq Kl.length cq Kl x rfl (Rd.of_own hq.out) hKn
              rw [← hr] at ht1 hcq
              have HCQ := Lib.hid hcq
              have HT := Lib.hid ht1
              have HY := Lib.hid (ownsRow_setCell_other (a := ⟨gb, k * 4 + 2, none⟩) hy.out (fun e => own_apart ht.out hy.out (by decide) gb rfl e) (.int .i64 (r : Int)))
              have HQ := Lib.hid (ownsRow_setCell_other (a := ⟨gb, k * 4 + 2, none⟩) hq.out (fun e => own_apart ht.out hq.out (by decide) gb rfl e) (.int .i64 (r : Int)))
              have HBW := Lib.hid (hbw.setCell (p := ⟨gb, k * 4 + 2, none⟩) hg1 (.int .i64 (r : Int)))
              clear hml hy ht hbw hq ht1 hcq hr hx
              go_wp2_with (go_at_call 30; refine HCQ.out.mono ?_; rintro e w' ⟨rfl, rfl⟩)
              go_roundw
              case rel => exact ⟨k + 1, by go_num, by omega, HQ.out, HY.out, HT.out, HBW.out⟩
              case measure => simp [intOf]; omega
            · have hkl : k = ss.length := by omega
              have HT := Lib.hid (show wr.ownsRow w3.heap.size 45 4 (.slice A5 ss.length c5) ss.length (clsT (ss.map (FR Kl))) by have := ht.out; rwa [hkl, mt_all] at this)
              have HRY := Lib.hid (Rd.of_own hy.out)
              have HRT := Lib.hid (Rd.of_own HT.out)
              have HBW := Lib.hid hbw
              obtain ⟨wc, hwc⟩ : ∃ wc, wc = wr := ⟨_, rfl⟩
              rw [← hwc] at HRY HRT HBW ⊢
              clear hkl hq hy ht hbw hwc HT
              go_wp2_with fail
              refine (run_law wc A4 A5 _ c4 _ c5 (l.map (fR Kl)) (ss.map (FR Kl)) (by simp) (by simp) HRY.out HRT.out (by simp; omega) (by simp; omega)).mono ?_
              rintro e w7 ⟨S2, O2, A7, c7, Ao2, co2, vs2, hF2, rfl, hrow2, hss2, hout2, hb7⟩
              have hst := ranks_fin Kl HKE.out HF.out hF2
              have hSS : S2.length = S.length := by rw [hst]; simp
              have hS5 : ((S2.length : Int) != (S.length : Int)) = false := by rw [hSS]; simp
              have hS6 : S.length ≤ S2.length := by omega
              have HTA := Lib.hid (ranks_at hst)
              have HROW2 := Lib.hid hrow2
              have HSS2 := Lib.hid hss2
              have HB7 := Lib.hid (bnext HBW.out hb7)
              clear hF2 hrow2 hss2 hout2 hb7 hst hSS
              go_wp2_with fail
              go_loopw [99] (fun s99 wr => ∃ (k : Nat), s99 = .int .i64 (k : Int) ∧ k ≤ S.length ∧ Below w7.heap.size w7 wr) (fun s99 _ => S.length - (intOf s99).toNat)
              case atStart => exact ⟨0, rfl, by omega, Below.refl _ _⟩
              case round =>
                obtain ⟨k, rfl, hk, hbw⟩ := hrel
                have HBK := Lib.hid hbw
                have HB3K := Lib.hid (bnext HB7.out hbw)
                clear hbw
                by_cases hlt : k < S.length
                · obtain ⟨b1, o1, Ax, cx, hA1, hb1, hcell1, hrx⟩ := st_at (HROW.out.below HB3K.out (Nat.le_refl _)) (HSS.out.below HB3K.out) k hlt
                  obtain ⟨b2, o2, Ay, cy, hA2, hb2, hcell2, hry⟩ := st_at (HROW2.out.below HBK.out (Nat.le_refl _)) (HSS2.out.below HBK.out) k (by omega)
                  obtain ⟨he2, he3⟩ := HTA.out k hlt
                  have hxl := HF.out.size k (by omega)
                  rw [Hp.length_init] at hxl
                  subst hA1
                  subst hA2
                  obtain ⟨X, hX⟩ : ∃ X, X = g S k := ⟨_, rfl⟩
                  obtain ⟨Y, hY⟩ : ∃ Y, Y = g S2 k := ⟨_, rfl⟩
                  rw [← hX] at hcell1 hrx he2 hxl he3
                  rw [← hY] at hcell2 hry he2 he3
                  have HE3 := Lib.hid he3
                  have hXY : ((X.length : Int) != (Y.length : Int)) = false := by rw [he2]; simp
                  have hXY2 : X.length ≤ Y.length := by omega
                  have HRX := Lib.hid hrx
                  have HRY' := Lib.hid hry
                  clear hX hY hrx hry he2 he3
                  go_wp2_with fail
                  go_quiet (fail)
                  go_wp2_with fail
                  go_loopw [118] (fun s118 wi => ∃ (j q : Nat), s118 = .int .i64 (j : Int) ∧ j ≤ X.length ∧ wi = wr.drewN q) (fun s118 _ => X.length - (intOf s118).toNat)
                  case atStart => exact ⟨0, nq, rfl, by omega, rfl⟩
                  case round =>
                    obtain ⟨j, q, rfl, hj, rfl⟩ := hrel
                    by_cases hjl : j < X.length
                    · obtain ⟨bx, ox, hAx, hbx, cx1, cx2⟩ := HRX.out.at_ j hjl
                      obtain ⟨by', oy, hAy, hby, cy1, cy2⟩ := HRY'.out.at_ j (by omega)
                      rw [HE3.out j hjl] at cy2
                      subst hAx
                      subst hAy
                      obtain ⟨z, hz⟩ : ∃ z, (g X j).2 = z := ⟨_, rfl⟩
                      rw [hz] at cx2 cy2
                      clear hz cx1 cy1
                      go_wp2_with fail
                      go_quiet (fail)
                      go_wp2
                      go_roundw
                      case rel => exact ⟨j + 1, q + nq, by go_num, by omega, rfl⟩
                      case measure => simp [intOf]; omega
                    · go_wp2
                      go_roundw
                      case rel => exact ⟨k + 1, by go_num, by omega, below_drewN HBK.out q⟩
                      case measure => simp [intOf]; omega
                · go_wp2
                  go_ret
                  exact ⟨rfl, bnext HB3.out HB3K.out⟩

theorem contract (H : Type) (enc : TypeId × Value → H) (W : World) (base : Nat) (args : Array Value) (ds gs : List (DataW H)) (before : List MemPlace)
    (hval : ∀ (j : Nat) t v, Try.f7.params[j]? = some t → args[j]? = some v → Value.okWide Try.prog W .any base t v)
    (hW : DataW.Whole enc Try.prog Try.f7.params.toList Rows.fnRanksAloneSpec.vars false W args.toList ds gs before)
    (hsz : (DataW.weightsEach Try.prog (Try.f7.params.toList ++ Rows.fnRanksAloneSpec.plain.varTypes Try.prog) (ds ++ gs)).all (· ≤ reachBytes) = true) :
    Calls Try.prog 7 args W fun e W' => ∃ v, e = .returned v ∧ Rows.fnRanksAloneSpec.post enc Try.prog Try.f7 false true false false W args v W' := by
  have hW' := hW
  obtain ⟨p, q, hA0, hV, rfl, _, _⟩ := hW
  have hA : DataW.TrodAll enc Try.prog W 0 (fun _ => true) true Try.f7.params.toList args.toList ds p := hA0
  rw [Try.params7] at hA hval hsz
  obtain ⟨v0, v1, d0, d1, p0, p1, rfl, rfl, rfl, h0, h1⟩ := trodAll_two hA
  obtain ⟨rfl, rfl⟩ := trodVars_none hV
  obtain ⟨A0, c0, l0, rfl, hr0, hn0⟩ := open_items (hval 0 22 v0 rfl rfl) h0 (fun elems spare he => by
    have := sized_slice hsz (j := 0) (t := 22) (e := 55) rfl (by rw [he]; rfl) Try.underlying22
    rw [bytes_lawItem] at this
    exact this)
  obtain ⟨A1, c1, l1, rfl, hr1, hn1⟩ := open_steps (hval 1 23 v1 rfl rfl) h1 (fun elems spare he => by
    have := sized_slice hsz (j := 1) (t := 23) (e := 34) rfl (by rw [he]; rfl) Try.underlying23
    rw [bytes_lawStep] at this
    exact this)
  have hcall : Calls Try.prog 7 #[.slice A0 l0.length c0, .slice A1 l1.length c1] W (Gives W (.bool true)) := walk W A0 c0 l0 A1 c1 l1 hr0 hn0 hr1 hn1
  refine hcall.mono fun e W' ⟨he, hb⟩ => ⟨_, he, ?_⟩
  exact law_post hW' rfl rfl rfl rfl rfl (by rw [Try.params7]; exact of_decide_eq_true (by kernel_rfl)) hb

set_option maxRecDepth 100000 in
theorem lifted (os : Os) (started : os.Started) (H : Type) (enc : TypeId × Value → H) :
    ReturnsInHanded {} Try.checked os 7 .any (Rows.fnRanksAloneSpec.pre6 enc Try.prog Try.f7 Rows.fnRanksAloneRow.domain false) (Rows.fnRanksAloneSpec.post enc Try.prog Try.f7 false true false false) := by
  refine returnsInHanded_of_change_sized (C := Try.checked) own started (by kernel_rfl) Try.func7
    (ChangeSpec.witness6 (enc := enc) (C := Try.checked) false ⟨#[], #[.slice none 0 0, .slice none 0 0], []⟩ 8 (by kernel_rfl) (by kernel_rfl) (by kernel_rfl) (by kernel_rfl)) ?_
  intro W base args ds gs before hval hW _ hsz _
  exact contract H enc W base args ds gs before hval hW hsz

theorem proved : Rows.FnRanksAloneSaid :=
  OpenClaim.holds_of_wide 7 Try.f7 rfl rfl rfl rfl rfl rfl rfl ⟨rfl, rfl, rfl, rfl, rfl⟩ rfl rfl rfl rfl rfl (by kernel_rfl) Try.func7 (by kernel_rfl)
    (of_decide_eq_true (by kernel_rfl)) (by unfold Func.isWrapper; first | (rw [if_pos (by decide +kernel)]; kernel_rfl) | (rw [if_neg (by decide +kernel)]; exact ⟨rfl, rfl⟩))
    (fun os started H enc _ => lifted os started H enc)
end Go.Proofs.Ytadacjndepkfeaa.fnRanksAlone
