/-
  spec.HeapScriptInts, walked: what it returns. Conditions: memory holds the numbers and the steps; they are within the reach of slices.
-/
import Derived.Test.YtjojlnmcifkenaaSpecI
import Derived.Deep.DeepCutAuto
namespace Go.Proofs.Ytjojlnmcifkenaa
open Go.RowKit Go.Shelf
open Hp (g swp Ev St plc srt stpH aftH outH)

set_option maxHeartbeats 4000000 in
set_option maxRecDepth 100000 in
theorem spec_script_law (w : World) (A As : Option Addr) (n c m cs : Nat) (x : List Int) (ss : List St) (hl : n = x.length) (hm : m = ss.length) (hr : Rd w A (clsN x)) (hrs : Rd w As (clsT ss)) (hn : x.length + ss.length + 1 ≤ 26388279066624) :
    Calls Try.prog 12 #[.slice A n c, .slice As m cs] w (TwoP w x ss) := by
  subst hl
  subst hm
  obtain ⟨A1, c1, w1, hrun1, ho1, hb1⟩ := run_copy_ints w A c x hr (by omega) 22
  have HRUN1 := Lib.hid hrun1
  have HN1 := Lib.hid (show N2 w.heap.size w1 (.slice A1 x.length c1) (.slice none 0 0) x [] from ⟨ho1, World.ownsRow_nil _ _ _ _, fun k _ => by simp [Value.ownBlock], hb1.size⟩)
  have HB1 := Lib.hid hb1
  have HRS := Lib.hid hrs
  clear hr hrs hrun1 ho1 hb1
  go_enter Try.func12, Try.ntmps12
  go_wp2_with (at_builtin; refine wpList_append_run rfl _ _ _ rfl _ _ _ _ rfl rfl HRUN1.out ?_)
  go_loopw [6, 7, 15] (fun s6 s7 s15 wr => ∃ (k : Nat) (H O : List Int), s15 = .int .i64 (k : Int) ∧ k ≤ ss.length ∧ H.length ≤ x.length + k ∧ O.length ≤ k ∧ Aside (N2 w.heap.size wr s6 s7 H O) ∧ Below w.heap.size w wr ∧ Hid (H = aftH x (ss.take k) ∧ O = outH x (ss.take k)))
    (fun _ _ s15 _ => ss.length - (intOf s15).toNat)
  case atStart => exact ⟨0, x, [], rfl, by omega, by omega, by simp, HN1.out, HB1.out, rfl, rfl⟩
  case round =>
    obtain ⟨k, H, O, rfl, hk, hHl, hOl, hn2, hbw, HEQ⟩ := hrel
    have hsz := hbw.size
    obtain ⟨Ah, ch, hvh⟩ := own_slice hn2.out.oa
    subst hvh
    obtain ⟨Ao, co, hvo⟩ := own_slice hn2.out.ob
    subst hvo
    by_cases hlt : k < ss.length
    · obtain ⟨b, o, hAs, hbb, h1, h2, h3, h4⟩ := (HRS.out.below hbw (Nat.le_refl _)).atT k hlt
      subst hAs
      obtain ⟨⟨q, a, kk, t⟩, hx⟩ : ∃ s, g ss k = s := ⟨_, rfl⟩
      rw [hx] at h1 h2 h3 h4
      have heq : (stpH (q, a, kk, t) H).1 = aftH x (ss.take (k + 1)) ∧ O ++ (stpH (q, a, kk, t) H).2 = outH x (ss.take (k + 1)) := by
        obtain ⟨e1, e2⟩ := HEQ.out
        rw [Hp.aftH_succ ss x k hlt, Hp.outH_succ ss x k hlt, hx, ← e1, ← e2]
        exact ⟨rfl, rfl⟩
      have hlen := Hp.stpH_len (q, a, kk, t) H
      obtain ⟨W, hW⟩ : ∃ W, W = wr.alloc (.cells #[.int .i64 q, .int .i64 a, .int .i64 kk, .int .i64 t] 36) := ⟨_, rfl⟩
      have hnew : Below wr.heap.size wr W := by rw [hW]; exact (Below.refl _ _).alloc (Nat.le_refl _) _
      have HW := Lib.hid hW
      have HN2 := Lib.hid (hn2.out.new hnew)
      have HBW := Lib.hid (bnext hbw hnew)
      obtain ⟨sb, hsb⟩ : ∃ sb, sb = wr.heap.size := ⟨_, rfl⟩
      have HSB := Lib.hid hsb
      have s0 : W.cell? ⟨sb, 0, none⟩ = some (.int .i64 q) := by rw [hW, hsb]; simp [World.cell?_alloc_new]
      have s2 : W.cell? ⟨sb, 2, none⟩ = some (.int .i64 kk) := by rw [hW, hsb]; simp [World.cell?_alloc_new]
      have hsW : sb < W.heap.size := by rw [hW, hsb]; simp
      have hlW := HN2.out.low
      have HST := Lib.hid (show ∃ sc, W.heap[sb]? = some (.cells sc 36 (0, 0)) from ⟨_, by rw [hW, hsb]; exact heap_alloc_new _ _⟩)
      clear hx hn2 hbw hW hnew hsb HEQ
      go_upto_region 6 with (fail)
      rw [← HW.out, ← HSB.out]
      clear h1 h2 h3 h4
      by_cases k1 : q = 1
      · subst k1
        have hst : stpH (1, a, kk, t) H = (H ++ [kk], []) := by unfold stpH; rw [if_pos rfl]
        rw [hst] at heq hlen
        rw [List.append_nil] at heq
        obtain ⟨A5, c5, w5, hrun5, hn5, hb5, _⟩ := (HN2.out.new ((Below.refl _ _).alloc (Nat.le_refl _) (.cells #[.int .i64 kk] 3))).app kk W.heap.size (heap_alloc_new _ _) (by omega) 22
        have HRUN5 := Lib.hid hrun5
        have HN5 := Lib.hid hn5
        have HB5 := Lib.hid ((HBW.out.alloc HBW.out.size (.cells #[.int .i64 kk] 3)).trans hb5)
        have HEQ2 := Lib.hid heq
        have hl5 : (H ++ [kk]).length ≤ x.length + (k + 1) := by rw [List.length_append]; simp; omega
        clear hst heq hlen hrun5 hn5 hb5
        go_wp2_with (at_builtin; refine wpList_append_run rfl _ _ _ rfl _ _ _ _ rfl rfl HRUN5.out ?_)
        go_roundw
        case rel => exact ⟨k + 1, H ++ [kk], O, by go_num, by omega, hl5, by omega, by have h9 := HN5.out; simp only [List.length_append, List.length_cons, List.length_nil, Nat.zero_add] at h9; exact h9, HB5.out, HEQ2⟩
        case measure => simp [intOf]; omega
      have n1 : (q == 1) = false := by simpa using k1
      by_cases h0 : H.length = 0
      · have hst : stpH (q, a, kk, t) H = (H, []) := by unfold stpH; rw [if_neg k1, if_pos (.inl h0)]
        rw [hst] at heq hlen
        rw [List.append_nil] at heq
        have HEQ2 := Lib.hid heq
        have e0 : ((H.length : Int) == 0) = true := by rw [h0]; rfl
        clear hst heq hlen k1 h0
        go_wp2
        go_roundw
        case rel => exact ⟨k + 1, H, O, by go_num, by omega, by omega, by omega, HN2.out, HBW.out, HEQ2⟩
        case measure => simp [intOf]; omega
      have e0 : ((H.length : Int) == 0) = false := by simp; intro e; rw [e] at h0; exact h0 rfl
      have hpos : 0 < H.length := by omega
      by_cases k9 : q ≠ 2 ∧ q ≠ 3 ∧ q ≠ 4
      · have hst : stpH (q, a, kk, t) H = (H, []) := by unfold stpH; rw [if_neg k1, if_pos (.inr k9)]
        rw [hst] at heq hlen
        rw [List.append_nil] at heq
        have HEQ2 := Lib.hid heq
        have n2 : (q != 2) = true := by simpa using k9.1
        have n3 : (q != 3) = true := by simpa using k9.2.1
        have n4 : (q != 4) = true := by simpa using k9.2.2
        clear hst heq hlen k1 h0 k9
        go_wp2
        go_roundw
        case rel => exact ⟨k + 1, H, O, by go_num, by omega, by omega, by omega, HN2.out, HBW.out, HEQ2⟩
        case measure => simp [intOf]; omega
      have hrk := ranked_any W Ah H.length ch H 0 rfl (Rd.of_own HN2.out.oa) (by omega) hpos
      rw [show ((0 : Nat) : Int) = 0 from rfl] at hrk
      obtain ⟨y, hy⟩ : ∃ y, y = g (srt H) 0 := ⟨_, rfl⟩
      rw [← hy] at hrk
      have HRK := Lib.hid hrk
      obtain ⟨A6, c6, w6, hrun6, hn6, hb6, hg6⟩ := (HN2.out.swap.new ((Below.refl _ _).alloc (Nat.le_refl _) (.cells #[.int .i64 y] 3))).app y W.heap.size (heap_alloc_new _ _) (by omega) 22
      have HRUN6 := Lib.hid hrun6
      have HN6 := Lib.hid hn6.swap
      have hb6' := (HBW.out.alloc HBW.out.size (.cells #[.int .i64 y] 3)).trans hb6
      have HB6 := Lib.hid hb6'
      have hO6 : (O ++ [y]).length ≤ k + 1 := by rw [List.length_append]; simp; omega
      have hne6 : (Value.slice Ao O.length co).ownBlock ≠ some sb := by obtain ⟨sc, hsc⟩ := HST.out; exact own_ne HN2.out.ob hsc (by decide)
      have hblk6 : w6.heap[sb]? = W.heap[sb]? := (hg6.block sb (by simp; omega) (Ne.symm hne6)).trans (Below.heap_alloc _ _ _ hsW)
      have q0 : w6.cell? ⟨sb, 0, none⟩ = some (.int .i64 q) := (World.cell?_of_block hblk6).trans s0
      have q2 : w6.cell? ⟨sb, 2, none⟩ = some (.int .i64 kk) := (World.cell?_of_block hblk6).trans s2
      have hs6 : sb < w6.heap.size := by have := hg6.size; simp at this; omega
      have hsel : ∃ hs, (stpH (q, a, kk, t) H) = (hs, [y]) ∧ hs = (if q = 4 then H.erase y ++ [kk] else H.erase y) := by
        by_cases k4 : q = 4
        · exact ⟨_, by unfold stpH; rw [if_neg k1, if_neg (by omega), if_pos k4, ← hy], by rw [if_pos k4]⟩
        · exact ⟨_, by unfold stpH; rw [if_neg k1, if_neg (by omega), if_neg k4, ← hy], by rw [if_neg k4]⟩
      obtain ⟨hs, hst, hhs⟩ := hsel
      rw [hst] at heq
      have HEQ2 := Lib.hid heq
      have hc4 : q = 2 ∨ q = 3 ∨ q = 4 := by omega
      have HHS := Lib.hid hhs
      clear hst heq hlen hy hrk hrun6 hn6 hb6 hg6 hb6' hne6 hblk6 hhs k1 k9 h0
      rcases hc4 with rfl | rfl | rfl
      · go_wp2_with (first
          | (go_at_call 28; refine HRK.out.mono ?_; rintro e w' ⟨rfl, rfl⟩)
          | (at_builtin; refine wpList_append_run rfl _ _ _ rfl _ _ _ _ rfl rfl HRUN6.out ?_)
          | (go_at_call 29; refine (without_any w6 Ah _ ch H y rfl (Rd.of_own HN6.out.oa) (by omega)).mono ?_; rintro e w7 ⟨A7, c7, rfl, ho7, hb7⟩; have HN7 := Lib.hid (HN6.out.fresh hb7 ho7); have HB7 := Lib.hid (bnext HB6.out hb7); have hl7 : (H.erase y).length ≤ H.length := List.length_erase_le; have r0 := (hb7.cell (p := ⟨sb, 0, none⟩) hs6).trans q0; have r2 := (hb7.cell (p := ⟨sb, 2, none⟩) hs6).trans q2; have hs7 : sb < w7.heap.size := Nat.lt_of_lt_of_le hs6 hb7.size; clear ho7 hb7))
        go_roundw
        case rel => exact ⟨k + 1, hs, O ++ [y], by go_num, by omega, by rw [HHS.out, if_neg (by decide)]; omega, hO6, by have h9 := HN7.out; simp only [List.length_append, List.length_cons, List.length_nil, Nat.zero_add] at h9; rw [HHS.out, if_neg (by decide)]; exact h9, HB7.out, HEQ2⟩
        case measure => simp [intOf]; omega
      · go_wp2_with (first
          | (go_at_call 28; refine HRK.out.mono ?_; rintro e w' ⟨rfl, rfl⟩)
          | (at_builtin; refine wpList_append_run rfl _ _ _ rfl _ _ _ _ rfl rfl HRUN6.out ?_)
          | (go_at_call 29; refine (without_any w6 Ah _ ch H y rfl (Rd.of_own HN6.out.oa) (by omega)).mono ?_; rintro e w7 ⟨A7, c7, rfl, ho7, hb7⟩; have HN7 := Lib.hid (HN6.out.fresh hb7 ho7); have HB7 := Lib.hid (bnext HB6.out hb7); have hl7 : (H.erase y).length ≤ H.length := List.length_erase_le; have r0 := (hb7.cell (p := ⟨sb, 0, none⟩) hs6).trans q0; have r2 := (hb7.cell (p := ⟨sb, 2, none⟩) hs6).trans q2; have hs7 : sb < w7.heap.size := Nat.lt_of_lt_of_le hs6 hb7.size; clear ho7 hb7))
        go_roundw
        case rel => exact ⟨k + 1, hs, O ++ [y], by go_num, by omega, by rw [HHS.out, if_neg (by decide)]; omega, hO6, by have h9 := HN7.out; simp only [List.length_append, List.length_cons, List.length_nil, Nat.zero_add] at h9; rw [HHS.out, if_neg (by decide)]; exact h9, HB7.out, HEQ2⟩
        case measure => simp [intOf]; omega
      · go_wp2_with (first
          | (go_at_call 28; refine HRK.out.mono ?_; rintro e w' ⟨rfl, rfl⟩)
          | (at_builtin; refine wpList_append_run rfl (.tmp 47) (.tmp 49) _ rfl _ _ _ _ rfl rfl HRUN6.out ?_)
          | (go_at_call 29; refine (without_any w6 Ah _ ch H y rfl (Rd.of_own HN6.out.oa) (by omega)).mono ?_; rintro e w7 ⟨A7, c7, rfl, ho7, hb7⟩; have HN7 := Lib.hid (HN6.out.fresh hb7 ho7); have HB7 := Lib.hid (bnext HB6.out hb7); have hl7 : (H.erase y).length ≤ H.length := List.length_erase_le; have r0 := (hb7.cell (p := ⟨sb, 0, none⟩) hs6).trans q0; have r2 := (hb7.cell (p := ⟨sb, 2, none⟩) hs6).trans q2; have hs7 : sb < w7.heap.size := Nat.lt_of_lt_of_le hs6 hb7.size; obtain ⟨A8, c8, w8, hrun8, hn8, hb8, _⟩ := (HN7.out.new ((Below.refl _ _).alloc (Nat.le_refl _) (.cells #[.int .i64 kk] 3))).app kk w7.heap.size (heap_alloc_new _ _) (by omega) 22; have HRUN8 := Lib.hid hrun8; have HN8 := Lib.hid hn8; have HB8 := Lib.hid ((HB7.out.alloc HB7.out.size (.cells #[.int .i64 kk] 3)).trans hb8); clear ho7 hb7 hrun8 hn8 hb8)
          | (at_builtin; refine wpList_append_run rfl (.tmp 57) (.tmp 60) _ rfl _ _ _ _ rfl rfl HRUN8.out ?_))
        go_roundw
        case rel => exact ⟨k + 1, hs, O ++ [y], by go_num, by omega, by rw [HHS.out, if_pos (by simp), List.length_append]; simp; omega, hO6, by have h9 := HN8.out; simp only [List.length_append, List.length_cons, List.length_nil, Nat.zero_add] at h9; rw [HHS.out, if_pos (by simp)]; exact h9, HB8.out, HEQ2⟩
        case measure => simp [intOf]; omega
    · have hkl : k = ss.length := by omega
      have heq : H = aftH x ss ∧ O = outH x ss := by have := HEQ.out; rwa [hkl, List.take_of_length_le (Nat.le_refl _)] at this
      obtain ⟨p1, p2⟩ := Hp.script_H ss x
      have HFA := Lib.hid (show O = Hp.outA (srt x) ss by rw [heq.2, p1])
      have HFB := Lib.hid (show srt H = Hp.aftA (srt x) ss by rw [heq.1, p2])
      have HN1' := Lib.hid hn2.out
      have HBW := Lib.hid hbw
      have HAS := Lib.hid (ascending_any wr Ah H.length ch H rfl (Rd.of_own hn2.out.oa) (by omega))
      clear heq p1 p2 hn2 hbw HEQ HN1 HB1 HRUN1
      go_wp2_with (go_at_call 30; refine HAS.out.mono ?_; rintro e w8 ⟨A8, c8, rfl, ho8, hb8⟩)
      go_ret2
      have hob := own_frm (X := fun _ => False) HN1'.out.ob (Frm.of_new hb8) (fun _ _ e => e)
      refine ⟨O, srt H, Ao, co, A8, c8, ⟨HFA.out, HFB.out⟩, rfl, hob, own_base ho8 HBW.out.size, ?_, bnext HBW.out hb8⟩
      intro k h1 h2
      have e1 := (HN1'.out.ob.lt k h1).2
      have e2 := (ho8.lt k h2).1
      omega
end Go.Proofs.Ytjojlnmcifkenaa
