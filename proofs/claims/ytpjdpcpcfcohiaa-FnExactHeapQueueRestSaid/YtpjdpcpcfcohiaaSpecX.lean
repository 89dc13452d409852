/-
  spec's (*waiting).step for pops, removes, fixes and other kinds, walked. Conditions: memory holds what it reads; the lists that grow stay within what append can bear.
-/
import Derived.Test.YtpjdpcpcfcohiaaSpecS
import Derived.Deep.DeepCutAuto
namespace Go.Proofs.Ytpjdpcpcfcohiaa
open Go.RowKit Go.Shelf
open Hp (g swp Ev St nums fstK fstW dropW fndK fndW setW stpW)

set_option maxHeartbeats 4000000 in
set_option maxRecDepth 100000 in
theorem stepW_fix {B : Nat} {w : World} {wb : Nat} {vi vo : Value} {c : Nat} {t out : List It} (h : WS B w wb vi vo c t out) (a k z : Int) (ht : t.length ≤ 13194139537408) :
    Calls Try.prog 42 #[.pointer (some ⟨wb, 0, none⟩), .agg #[.int .i64 4, .int .i64 a, .int .i64 k, .int .i64 z]] w (SteppedW B wb (4, a, k, z) c t out w) := by
  obtain ⟨sb, hsb⟩ : ∃ sb, sb = w.heap.size := ⟨_, rfl⟩
  obtain ⟨W, hW⟩ : ∃ W, W = w.alloc (.cells #[.int .i64 4, .int .i64 a, .int .i64 k, .int .i64 z] 36) := ⟨_, rfl⟩
  have hnew : Below w.heap.size w W := by rw [hW]; exact (Below.refl _ _).alloc (Nat.le_refl _) _
  have h1 := h.new hnew
  obtain ⟨Ai, ci, hvi⟩ := own_slice h1.its
  subst hvi
  obtain ⟨Ao, co, hvo⟩ := own_slice h1.out
  subst hvo
  obtain ⟨k0, k1, k2, _⟩ := WT.cells h1.box
  have hltb := lt_of_block h1.box
  have s0 : W.cell? ⟨sb, 0, none⟩ = some (.int .i64 4) := by rw [hW, hsb]; simp [World.cell?_alloc_new]
  have s1 : W.cell? ⟨sb, 1, none⟩ = some (.int .i64 a) := by rw [hW, hsb]; simp [World.cell?_alloc_new]
  have s2 : W.cell? ⟨sb, 2, none⟩ = some (.int .i64 k) := by rw [hW, hsb]; simp [World.cell?_alloc_new]
  have hsz : sb < W.heap.size := by rw [hW, hsb]; simp
  have hsblk : ∃ sc, W.heap[sb]? = some (.cells sc 36 (0, 0)) := ⟨_, by rw [hW, hsb]; exact heap_alloc_new _ _⟩
  have H1 := Lib.hid h1
  have HNW := Lib.hid (hnew.mono h.low)
  have HW := Lib.hid hW
  have HSB := Lib.hid hsb
  have hlow := h1.low
  clear h h1 hW hnew hsb
  go_enter Try.func42, Try.ntmps42
  go_upto_region 1 with (fail)
  rw [← HW.out, ← HSB.out]
  go_wp2_with fail
  go_loopw [90] (fun s90 wr => ∃ (j : Nat), s90 = .int .i64 (j : Int) ∧ j ≤ t.length ∧ Aside (WS B wr wb (.slice Ai t.length ci) (.slice Ao out.length co) c (setW a k (t.take j) ++ t.drop j) out) ∧ Below B w wr ∧ wr.heap[sb]? = W.heap[sb]? ∧ sb < wr.heap.size) (fun s90 _ => t.length - (intOf s90).toNat)
  case atStart => exact ⟨0, rfl, by omega, H1.out, HNW.out, rfl, hsz⟩
  case round =>
    obtain ⟨j, rfl, hj, hws, hbw, hsw, hszw⟩ := hrel
    have HB := Lib.hid hbw
    have hlen : (setW a k (t.take j) ++ t.drop j).length = t.length := by unfold setW; rw [List.length_append, List.length_map, List.length_take, List.length_drop]; omega
    by_cases hjl : j < t.length
    · have hT := hws.out
      obtain ⟨T, hTT⟩ : ∃ T, T = setW a k (t.take j) ++ t.drop j := ⟨_, rfl⟩
      rw [← hTT] at hT hlen
      have hgT : g T j = g t j := by
        rw [hTT]
        have e : (setW a k (t.take j)).length = j := by unfold setW; rw [List.length_map, List.length_take]; omega
        have h9 : (setW a k (t.take j) ++ t.drop j)[j]? = t[j]? := by rw [List.getElem?_append_right (by omega), e, Nat.sub_self, List.getElem?_drop, Nat.add_zero]
        rw [Hp.g_lt hjl, Hp.g_lt (by rw [← hTT, hlen]; exact hjl)] at h9
        injection h9
      have hnext : ∀ y, (y = if (g t j).2 = a then (k, (g t j).2) else g t j) → T.set j y = setW a k (t.take (j + 1)) ++ t.drop (j + 1) := fun y hy => by
        have e : (setW a k (t.take j)).length = j := by unfold setW; rw [List.length_map, List.length_take]; omega
        have e2 : setW a k (t.take (j + 1)) = setW a k (t.take j) ++ [y] := by rw [take_succ_g t j hjl, hy]; unfold setW; rw [List.map_append]; rfl
        have e3 : t.drop j = g t j :: t.drop (j + 1) := by rw [← Hp.g_eq hjl]; exact List.drop_eq_getElem_cons hjl
        rw [hTT, e2, e3, List.set_append_right _ _ (by omega), e, Nat.sub_self, List.set_cons_zero, List.append_assoc]
        rfl
      obtain ⟨⟨x1, x2⟩, hx⟩ : ∃ x, g t j = x := ⟨_, rfl⟩
      rw [hx] at hgT hnext
      have hTl : 0 < T.length := by omega
      rw [show (Value.slice Ai t.length ci) = .slice Ai T.length ci by rw [hlen]] at hT
      obtain ⟨gb, hAi, _, hgb⟩ := own_addr hT.its hTl
      subst hAi
      obtain ⟨c1, c2⟩ := cls_at T j (by omega)
      rw [hgT] at c1 c2
      have q1 := (hT.its.cellAt (j * 2) (by omega)).trans c1
      have q2 := (hT.its.cellAt (j * 2 + 1) (by omega)).trans c2
      have fz := fun i => hT.its.frozenAt i
      obtain ⟨b0, _, _, _⟩ := WT.cells hT.box
      rw [hlen] at b0
      have hbl := lt_of_block hT.box
      have hnb : gb ≠ sb := by
        obtain ⟨sc, hsc⟩ := hsblk
        intro e
        exact own_ne hT.its (hsw.trans hsc) (by decide) (by rw [← e]; rfl)
      have hnw : gb ≠ wb := fun e => hT.idb (by rw [← e]; rfl)
      have S1 : wr.cell? ⟨sb, 1, none⟩ = some (.int .i64 a) := (World.cell?_of_block hsw).trans s1
      have S2 : wr.cell? ⟨sb, 2, none⟩ = some (.int .i64 k) := (World.cell?_of_block hsw).trans s2
      have HT := Lib.hid hT
      have HLEN := Lib.hid hlen
      have HNX := Lib.hid hnext
      by_cases hxa : x2 = a
      · subst hxa
        obtain ⟨hset, hbs⟩ := hT.set (i := j) (by omega) (k, x2)
        have hf1 := fz (j * 2)
        have hf2 := fz (j * 2 + 1)
        have hset2 := hset.new ((Below.refl _ _).alloc (Nat.le_refl _) (.cells #[.int .i64 x1, .int .i64 x2] 34))
        have hset3 := hset2.new (w' := World.drew _) ((Below.refl _ _).drew)
        have HS3 := Lib.hid hset3
        have HBS := Lib.hid (((hbw.trans hbs).alloc (by have := hset.low; omega) (.cells #[.int .i64 x1, .int .i64 x2] 34)).drew)
        have HSW := Lib.hid (show (((wr.setCell ⟨gb, j * 2, none⟩ (.int .i64 k)).setCell ⟨gb, j * 2 + 1, none⟩ (.int .i64 x2)).alloc (.cells #[.int .i64 x1, .int .i64 x2] 34)).heap[sb]? = W.heap[sb]? by
          rw [Below.heap_alloc _ _ _ (by simpa using hszw), Below.heap_setCell _ _ _ _ (fun e => hnb e.symm), Below.heap_setCell _ _ _ _ (fun e => hnb e.symm)]; exact hsw)
        clear hT hTT hgT hnext hset hbs hset2 hset3 hlen hx c1 c2 hws hbw hsw hsblk s1 s2 s0 k0 k1 k2 fz
        go_wp2_with fail
        go_region
        all_goals
          go_wp2
          go_roundw
          case rel =>
            refine ⟨j + 1, by go_num, by omega, ?_, HBS.out, HSW.out, by simp; omega⟩
            have h9 := HS3.out
            rw [HNX.out _ (by simp)] at h9
            rw [HLEN.out] at h9
            exact h9
          case measure => simp [intOf]; omega
      · have hxb : (x2 == a) = false := by simpa using hxa
        have hset2 := hT.new ((Below.refl _ _).alloc (Nat.le_refl _) (.cells #[.int .i64 x1, .int .i64 x2] 34))
        have hsame : T = setW a k (t.take (j + 1)) ++ t.drop (j + 1) := by
          rw [← hnext (x1, x2) (by rw [if_neg hxa]), ← hgT]
          exact (Hp.set_self (by omega)).symm
        have HS3 := Lib.hid hset2
        have HSM := Lib.hid hsame
        have HBS := Lib.hid (hbw.alloc (by have := hT.low; omega) (.cells #[.int .i64 x1, .int .i64 x2] 34))
        have HSW := Lib.hid (show (wr.alloc (.cells #[.int .i64 x1, .int .i64 x2] 34)).heap[sb]? = W.heap[sb]? by rw [Below.heap_alloc _ _ _ hszw]; exact hsw)
        clear hT hTT hgT hnext hset2 hsame hlen hx c1 c2 hws hbw hsw hsblk s1 s2 s0 k0 k1 k2 fz hxa
        go_wp2
        go_roundw
        case rel =>
          refine ⟨j + 1, by go_num, by omega, ?_, HBS.out, HSW.out, by simp; omega⟩
          have h9 := HS3.out
          rw [HLEN.out] at h9
          rw [← HSM.out]
          exact h9
        case measure => simp [intOf]; omega
    · have hje : j = t.length := by omega
      have hT := hws.out
      rw [hje, List.take_length, List.drop_length, List.append_nil] at hT
      have hst : stpW (4, a, k, z) (c, t) = ((c, setW a k t), []) := by
        unfold stpW
        rw [if_neg (by simp), if_neg (by simp), if_neg (by simp), if_pos rfl]
      have HFIN := Lib.hid (show SteppedW B wb (4, a, k, z) c t out w (.returned (.tuple #[])) wr from SteppedW.of hst (by rw [List.append_nil]; exact hT) hbw)
      clear hT hst hws hbw hlen
      go_wp2
      go_end0
      exact HFIN.out
end Go.Proofs.Ytpjdpcpcfcohiaa
