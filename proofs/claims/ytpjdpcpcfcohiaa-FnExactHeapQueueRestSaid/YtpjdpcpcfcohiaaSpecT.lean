/-
  spec's (*waiting).step for pops, removes, fixes and other kinds, walked. Conditions: memory holds what it reads; the lists that grow stay within what append can bear.
-/
import Derived.Test.YtpjdpcpcfcohiaaSpecS
import Derived.Deep.DeepCutAuto
namespace Go.Proofs.Ytpjdpcpcfcohiaa
open Go.RowKit Go.Shelf
open Hp (g swp Ev St nums fstK fstW dropW fndK fndW setW stpW)

set_option maxHeartbeats 4000000 in
set_option maxRecDepth 100000 in
theorem stepW_pop {B : Nat} {w : World} {wb : Nat} {vi vo : Value} {c : Nat} {t out : List It} (h : WS B w wb vi vo c t out) (a k z : Int) (hl : 0 < t.length) (ht : t.length ≤ 13194139537408) (hO : out.length + 1 ≤ 13194139537408) :
    Calls Try.prog 42 #[.pointer (some ⟨wb, 0, none⟩), .agg #[.int .i64 2, .int .i64 a, .int .i64 k, .int .i64 z]] w (SteppedW B wb (2, a, k, z) c t out w) := by
  obtain ⟨sb, hsb⟩ : ∃ sb, sb = w.heap.size := ⟨_, rfl⟩
  obtain ⟨W, hW⟩ : ∃ W, W = w.alloc (.cells #[.int .i64 2, .int .i64 a, .int .i64 k, .int .i64 z] 36) := ⟨_, rfl⟩
  have hnew : Below w.heap.size w W := by rw [hW]; exact (Below.refl _ _).alloc (Nat.le_refl _) _
  have h1 := h.new hnew
  obtain ⟨Ai, ci, hvi⟩ := own_slice h1.its
  subst hvi
  obtain ⟨Ao, co, hvo⟩ := own_slice h1.out
  subst hvo
  obtain ⟨k0, k1, k2, _⟩ := WT.cells h1.box
  have hltb := lt_of_block h1.box
  have s0 : W.cell? ⟨sb, 0, none⟩ = some (.int .i64 2) := by rw [hW, hsb]; simp [World.cell?_alloc_new]
  have s1 : W.cell? ⟨sb, 1, none⟩ = some (.int .i64 a) := by rw [hW, hsb]; simp [World.cell?_alloc_new]
  have s2 : W.cell? ⟨sb, 2, none⟩ = some (.int .i64 k) := by rw [hW, hsb]; simp [World.cell?_alloc_new]
  have hsz : sb < W.heap.size := by rw [hW, hsb]; simp
  have hsblk : ∃ sc, W.heap[sb]? = some (.cells sc 36 (0, 0)) := ⟨_, by rw [hW, hsb]; exact heap_alloc_new _ _⟩
  have H1 := Lib.hid h1
  have HNW := Lib.hid (hnew.mono h.low)
  have HW := Lib.hid hW
  have HSB := Lib.hid hsb
  have hlow := h1.low
  clear h h1 hW hnew hsb
  go_enter Try.func42, Try.ntmps42
  go_upto_region 1 with (fail)
  rw [← HW.out, ← HSB.out]
  go_wp2_with fail
  refine (first_any W wb Ai ci (c : Int) _ t H1.out.box (Rd.of_own H1.out.its) hl (by omega)).mono ?_
  rintro e w1 ⟨rfl, hb1⟩
  have hw1 := H1.out.new hb1
  have H1b := Lib.hid hw1
  have HNB := Lib.hid (HNW.out.trans (hb1.mono hlow))
  obtain ⟨k0', _, _, _⟩ := WT.cells hw1.box
  have hl1 := lt_of_block hw1.box
  have hft := run_field_tag
  clear k0 k1 k2 s0 s1 s2 hw1 hb1
  go_wp2_with fail
  refine (take_any w1 wb Ai ci (c : Int) _ (fstW t).2 t H1b.out.box (Rd.of_own H1b.out.its) (by omega)).mono ?_

  rintro e w2 ⟨⟨x1, x2⟩, b, A2, c2, L, ⟨ef, eb, eL⟩, rfl, hb2, ho2, hf2⟩
  obtain ⟨hw2, hbb2⟩ := H1b.out.taken hb2 ho2 hf2

  have HST := Lib.hid (show stpW (2, a, k, z) (c, t) = ((c, L), [(x1, x2)]) by
    unfold stpW
    rw [if_neg (by simp), if_pos rfl, if_neg (by simp only; omega), ef, eL])

  have h3 := hw2.new ((Below.refl w2.heap.size w2).alloc (Nat.le_refl _) (.cells #[.int .i64 x1, .int .i64 x2] 34))
  obtain ⟨_, _, q2, _⟩ := WT.cells h3.box
  have hq3 := lt_of_block h3.box
  obtain ⟨w3, hw3⟩ : ∃ w3, w3 = w2.alloc (.cells #[.int .i64 x1, .int .i64 x2] 34) := ⟨_, rfl⟩
  rw [← hw3] at h3 q2 hq3
  have y1 : w3.cell? ⟨w2.heap.size, 0, none⟩ = some (.int .i64 x1) := by rw [hw3]; simp [World.cell?_alloc_new]
  have y2 : w3.cell? ⟨w2.heap.size, 1, none⟩ = some (.int .i64 x2) := by rw [hw3]; simp [World.cell?_alloc_new]
  have hy3 : w2.heap.size < w3.heap.size := by rw [hw3]; simp
  have HB3 := Lib.hid (show Below B w w3 by rw [hw3]; exact (HNB.out.trans hbb2).alloc (by have := hw2.low; omega) _)
  have H3 := Lib.hid h3
  have HW3 := Lib.hid hw3
  obtain ⟨xb, hxb⟩ : ∃ xb, xb = w2.heap.size := ⟨_, rfl⟩
  rw [← hxb] at y1 y2 hy3
  have HXB := Lib.hid hxb

  clear ef eb eL hb2 ho2 hf2 hw2 hbb2 h3 hw3 hxb k0' hft
  go_upto_region 8 with (fail)
  rw [← HW3.out, ← HXB.out]

  go_wp2_with fail
  go_region_law
    (first
      | (refine wanted_plain rfl (wp_append_itemL (.tmp 57) (.tmp 59) rfl (.slice Ao out.length co) B out (x1, x2) w3.heap.size (by simp [Act.eval]) (by simp [Act.eval]) ?_ ?_ ?_ ?_ ?_)
         · exact (H3.out.out.drew.alloc _)
         · exact heap_alloc_new _ _
         · exact hO
         · have := H3.out.low; simp; omega
         intro A4 c4 w4 ho4 hg4 hl4
         obtain ⟨hm4, hW4, hB4⟩ := H3.out.outed _ ho4 hg4 hl4
         have HW4 := Lib.hid hW4
         have HB4 := Lib.hid (HB3.out.trans hB4)
         clear ho4 hg4 hl4 hW4 hB4
         obtain ⟨_, _, p2, pf⟩ := WT.cells hm4
         have f4 := pf 2
         clear pf hm4))
  all_goals
    go_wp2
    go_end0
    exact SteppedW.of HST.out HW4.out HB4.out

set_option maxHeartbeats 4000000 in
set_option maxRecDepth 100000 in
theorem stepW_rem {B : Nat} {w : World} {wb : Nat} {vi vo : Value} {c : Nat} {t out : List It} (h : WS B w wb vi vo c t out) (a k z : Int) (hin : a ∈ nums t) (ht : t.length ≤ 13194139537408) (hO : out.length + 1 ≤ 13194139537408) :
    Calls Try.prog 42 #[.pointer (some ⟨wb, 0, none⟩), .agg #[.int .i64 3, .int .i64 a, .int .i64 k, .int .i64 z]] w (SteppedW B wb (3, a, k, z) c t out w) := by
  obtain ⟨sb, hsb⟩ : ∃ sb, sb = w.heap.size := ⟨_, rfl⟩
  obtain ⟨W, hW⟩ : ∃ W, W = w.alloc (.cells #[.int .i64 3, .int .i64 a, .int .i64 k, .int .i64 z] 36) := ⟨_, rfl⟩
  have hnew : Below w.heap.size w W := by rw [hW]; exact (Below.refl _ _).alloc (Nat.le_refl _) _
  have h1 := h.new hnew
  obtain ⟨Ai, ci, hvi⟩ := own_slice h1.its
  subst hvi
  obtain ⟨Ao, co, hvo⟩ := own_slice h1.out
  subst hvo
  obtain ⟨k0, k1, k2, _⟩ := WT.cells h1.box
  have hltb := lt_of_block h1.box
  have s0 : W.cell? ⟨sb, 0, none⟩ = some (.int .i64 3) := by rw [hW, hsb]; simp [World.cell?_alloc_new]
  have s1 : W.cell? ⟨sb, 1, none⟩ = some (.int .i64 a) := by rw [hW, hsb]; simp [World.cell?_alloc_new]
  have s2 : W.cell? ⟨sb, 2, none⟩ = some (.int .i64 k) := by rw [hW, hsb]; simp [World.cell?_alloc_new]
  have hsz : sb < W.heap.size := by rw [hW, hsb]; simp
  have hsblk : ∃ sc, W.heap[sb]? = some (.cells sc 36 (0, 0)) := ⟨_, by rw [hW, hsb]; exact heap_alloc_new _ _⟩
  have H1 := Lib.hid h1
  have HNW := Lib.hid (hnew.mono h.low)
  have HW := Lib.hid hW
  have HSB := Lib.hid hsb
  have hlow := h1.low
  clear h h1 hW hnew hsb
  go_enter Try.func42, Try.ntmps42
  go_upto_region 1 with (fail)
  rw [← HW.out, ← HSB.out]
  go_wp2_with fail
  refine (take_any W wb Ai ci (c : Int) _ a t H1.out.box (Rd.of_own H1.out.its) (by omega)).mono ?_

  rintro e w2 ⟨⟨x1, x2⟩, b, A2, c2, L, ⟨ef, eb, eL⟩, rfl, hb2, ho2, hf2⟩
  obtain ⟨hw2, hbb2⟩ := H1.out.taken hb2 ho2 hf2

  have HST := Lib.hid (show stpW (3, a, k, z) (c, t) = ((c, L), [(x1, x2)]) by
    unfold stpW
    rw [if_neg (by simp), if_neg (by simp), if_pos rfl]
    simp only
    rw [if_pos hin, ef, eL])
  obtain rfl : b = true := by rw [eb]; exact decide_eq_true hin

  have h3 := hw2.new ((Below.refl w2.heap.size w2).alloc (Nat.le_refl _) (.cells #[.int .i64 x1, .int .i64 x2] 34))
  obtain ⟨_, _, q2, _⟩ := WT.cells h3.box
  have hq3 := lt_of_block h3.box
  obtain ⟨w3, hw3⟩ : ∃ w3, w3 = w2.alloc (.cells #[.int .i64 x1, .int .i64 x2] 34) := ⟨_, rfl⟩
  rw [← hw3] at h3 q2 hq3
  have y1 : w3.cell? ⟨w2.heap.size, 0, none⟩ = some (.int .i64 x1) := by rw [hw3]; simp [World.cell?_alloc_new]
  have y2 : w3.cell? ⟨w2.heap.size, 1, none⟩ = some (.int .i64 x2) := by rw [hw3]; simp [World.cell?_alloc_new]
  have hy3 : w2.heap.size < w3.heap.size := by rw [hw3]; simp
  have HB3 := Lib.hid (show Below B w w3 by rw [hw3]; exact (HNW.out.trans hbb2).alloc (by have := hw2.low; omega) _)
  have H3 := Lib.hid h3
  have HW3 := Lib.hid hw3
  obtain ⟨xb, hxb⟩ : ∃ xb, xb = w2.heap.size := ⟨_, rfl⟩
  rw [← hxb] at y1 y2 hy3
  have HXB := Lib.hid hxb

  clear ef eb eL hb2 ho2 hf2 hw2 hbb2 h3 hw3 hxb hin k0 k1 k2 s0 s1 s2
  go_upto_region 12 with (fail)
  rw [← HW3.out, ← HXB.out]

  go_wp2_with fail
  go_region_law
    (first
      | (refine wanted_plain rfl (wp_append_itemL (.tmp 77) (.tmp 79) rfl (.slice Ao out.length co) B out (x1, x2) w3.heap.size (by simp [Act.eval]) (by simp [Act.eval]) ?_ ?_ ?_ ?_ ?_)
         · exact (H3.out.out.drew.alloc _)
         · exact heap_alloc_new _ _
         · exact hO
         · have := H3.out.low; simp; omega
         intro A4 c4 w4 ho4 hg4 hl4
         obtain ⟨hm4, hW4, hB4⟩ := H3.out.outed _ ho4 hg4 hl4
         have HW4 := Lib.hid hW4
         have HB4 := Lib.hid (HB3.out.trans hB4)
         clear ho4 hg4 hl4 hW4 hB4
         obtain ⟨_, _, p2, pf⟩ := WT.cells hm4
         have f4 := pf 2
         clear pf hm4))
  all_goals
    go_wp2
    go_end0
    exact SteppedW.of HST.out HW4.out HB4.out

set_option maxHeartbeats 4000000 in
set_option maxRecDepth 100000 in
theorem stepW_rem0 {B : Nat} {w : World} {wb : Nat} {vi vo : Value} {c : Nat} {t out : List It} (h : WS B w wb vi vo c t out) (a k z : Int) (hin : a ∉ nums t) (ht : t.length ≤ 13194139537408) :
    Calls Try.prog 42 #[.pointer (some ⟨wb, 0, none⟩), .agg #[.int .i64 3, .int .i64 a, .int .i64 k, .int .i64 z]] w (SteppedW B wb (3, a, k, z) c t out w) := by
  obtain ⟨sb, hsb⟩ : ∃ sb, sb = w.heap.size := ⟨_, rfl⟩
  obtain ⟨W, hW⟩ : ∃ W, W = w.alloc (.cells #[.int .i64 3, .int .i64 a, .int .i64 k, .int .i64 z] 36) := ⟨_, rfl⟩
  have hnew : Below w.heap.size w W := by rw [hW]; exact (Below.refl _ _).alloc (Nat.le_refl _) _
  have h1 := h.new hnew
  obtain ⟨Ai, ci, hvi⟩ := own_slice h1.its
  subst hvi
  obtain ⟨Ao, co, hvo⟩ := own_slice h1.out
  subst hvo
  obtain ⟨k0, k1, k2, _⟩ := WT.cells h1.box
  have hltb := lt_of_block h1.box
  have s0 : W.cell? ⟨sb, 0, none⟩ = some (.int .i64 3) := by rw [hW, hsb]; simp [World.cell?_alloc_new]
  have s1 : W.cell? ⟨sb, 1, none⟩ = some (.int .i64 a) := by rw [hW, hsb]; simp [World.cell?_alloc_new]
  have s2 : W.cell? ⟨sb, 2, none⟩ = some (.int .i64 k) := by rw [hW, hsb]; simp [World.cell?_alloc_new]
  have hsz : sb < W.heap.size := by rw [hW, hsb]; simp
  have hsblk : ∃ sc, W.heap[sb]? = some (.cells sc 36 (0, 0)) := ⟨_, by rw [hW, hsb]; exact heap_alloc_new _ _⟩
  have H1 := Lib.hid h1
  have HNW := Lib.hid (hnew.mono h.low)
  have HW := Lib.hid hW
  have HSB := Lib.hid hsb
  have hlow := h1.low
  clear h h1 hW hnew hsb
  go_enter Try.func42, Try.ntmps42
  go_upto_region 1 with (fail)
  rw [← HW.out, ← HSB.out]
  go_wp2_with fail
  refine (take_any W wb Ai ci (c : Int) _ a t H1.out.box (Rd.of_own H1.out.its) (by omega)).mono ?_

  rintro e w2 ⟨⟨x1, x2⟩, b, A2, c2, L, ⟨ef, eb, eL⟩, rfl, hb2, ho2, hf2⟩
  obtain ⟨hw2, hbb2⟩ := H1.out.taken hb2 ho2 hf2

  have HST := Lib.hid (show stpW (3, a, k, z) (c, t) = ((c, L), []) by
    unfold stpW
    rw [if_neg (by simp), if_neg (by simp), if_pos rfl]
    simp only
    rw [if_neg hin, eL])
  obtain rfl : b = false := by rw [eb]; exact decide_eq_false hin
  have H3 := Lib.hid (hw2.new ((Below.refl w2.heap.size w2).alloc (Nat.le_refl _) (.cells #[.int .i64 x1, .int .i64 x2] 34)))
  have HB3 := Lib.hid ((HNW.out.trans hbb2).alloc (by have := hw2.low; omega) (.cells #[.int .i64 x1, .int .i64 x2] 34))
  clear ef eb eL hb2 ho2 hf2 hw2 hbb2 hin k0 k1 k2 s0 s1 s2
  go_wp2
  go_end0
  exact SteppedW.of HST.out (by rw [List.append_nil]; exact H3.out) HB3.out

set_option maxHeartbeats 4000000 in
set_option maxRecDepth 100000 in
theorem stepW_none {B : Nat} {w : World} {wb : Nat} {vi vo : Value} {c : Nat} {t out : List It} (h : WS B w wb vi vo c t out) (q a k z : Int) (hq1 : q ≠ 1) (hq3 : q ≠ 3) (hq4 : q ≠ 4) (h2 : q = 2 → t.length = 0) :
    Calls Try.prog 42 #[.pointer (some ⟨wb, 0, none⟩), .agg #[.int .i64 q, .int .i64 a, .int .i64 k, .int .i64 z]] w (SteppedW B wb (q, a, k, z) c t out w) := by
  obtain ⟨sb, hsb⟩ : ∃ sb, sb = w.heap.size := ⟨_, rfl⟩
  obtain ⟨W, hW⟩ : ∃ W, W = w.alloc (.cells #[.int .i64 q, .int .i64 a, .int .i64 k, .int .i64 z] 36) := ⟨_, rfl⟩
  have hnew : Below w.heap.size w W := by rw [hW]; exact (Below.refl _ _).alloc (Nat.le_refl _) _
  have h1 := h.new hnew
  obtain ⟨Ai, ci, hvi⟩ := own_slice h1.its
  subst hvi
  obtain ⟨Ao, co, hvo⟩ := own_slice h1.out
  subst hvo
  obtain ⟨k0, k1, k2, _⟩ := WT.cells h1.box
  have hltb := lt_of_block h1.box
  have s0 : W.cell? ⟨sb, 0, none⟩ = some (.int .i64 q) := by rw [hW, hsb]; simp [World.cell?_alloc_new]
  have s1 : W.cell? ⟨sb, 1, none⟩ = some (.int .i64 a) := by rw [hW, hsb]; simp [World.cell?_alloc_new]
  have s2 : W.cell? ⟨sb, 2, none⟩ = some (.int .i64 k) := by rw [hW, hsb]; simp [World.cell?_alloc_new]
  have hsz : sb < W.heap.size := by rw [hW, hsb]; simp
  have hsblk : ∃ sc, W.heap[sb]? = some (.cells sc 36 (0, 0)) := ⟨_, by rw [hW, hsb]; exact heap_alloc_new _ _⟩
  have H1 := Lib.hid h1
  have HNW := Lib.hid (hnew.mono h.low)
  have HW := Lib.hid hW
  have HSB := Lib.hid hsb
  have hlow := h1.low
  clear h h1 hW hnew hsb
  go_enter Try.func42, Try.ntmps42
  go_upto_region 1 with (fail)
  rw [← HW.out, ← HSB.out]
  have hst : stpW (q, a, k, z) (c, t) = ((c, t), []) := by
    unfold stpW
    rw [if_neg hq1]
    by_cases e : q = 2
    · rw [if_pos e, if_pos (h2 e)]
    · rw [if_neg e, if_neg hq3, if_neg hq4]
  have HFIN := Lib.hid (show SteppedW B wb (q, a, k, z) c t out w (.returned (.tuple #[])) W from SteppedW.of hst (by rw [List.append_nil]; exact H1.out) HNW.out)
  have n1 : (q == 1) = false := by simpa using hq1
  have n3 : (q == 3) = false := by simpa using hq3
  have n4 : (q == 4) = false := by simpa using hq4
  by_cases e2 : q = 2
  · subst e2
    have hl0 : t.length ≤ 0 := Nat.le_of_eq (h2 rfl)
    have hl1 : decide (0 < t.length) = false := decide_eq_false (by omega)
    clear hst h2 hq1 hq3 hq4
    go_wp2
    go_end0
    exact HFIN.out
  · have n2 : (q == 2) = false := by simpa using e2
    clear hst h2 hq1 hq3 hq4 e2
    go_wp2
    go_end0
    exact HFIN.out
end Go.Proofs.Ytpjdpcpcfcohiaa
