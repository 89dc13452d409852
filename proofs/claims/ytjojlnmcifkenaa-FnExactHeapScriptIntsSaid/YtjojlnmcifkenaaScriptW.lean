/-
  impl.HeapScriptInts, walked: what it returns. Conditions: memory holds the numbers and the steps; they are within the reach of slices.
-/
import Derived.Test.YtjojlnmcifkenaaScript
namespace Go.Proofs.Ytjojlnmcifkenaa
open Go.RowKit Go.Shelf
open Hp (g swp Ev St plc)

theorem run_copy_ints (w : World) (A : Option Addr) (c : Nat) (l : List Int) (hr : Rd w A (clsN l)) (hn : l.length ≤ 26388279066624) (ty : TypeId) :
    ∃ A' c' w', (Builtin.append_ #[22, 22] ty #[.slice none 0 0, .slice A l.length c]).run Try.prog w = .ok (.slice A' l.length c') w' ∧ w'.ownsRow w.heap.size 3 1 (.slice A' l.length c') l.length (clsN l) ∧ Below w.heap.size w w' := by
  obtain ⟨A', c', w', h1, h2, h3⟩ := run_append_ints w w.heap.size (.slice none 0 0) [] l A c (World.ownsRow_nil _ _ _ _) hr (by simpa using hn) (Nat.le_refl _) ty
  simp only [List.length_nil, Nat.zero_add, List.nil_append] at h1 h2
  exact ⟨A', c', w', h1, h2, (Below.refl _ _).grown h3 (Nat.le_refl _) (by simp [Value.ownBlock])⟩

set_option maxHeartbeats 4000000 in
set_option maxRecDepth 100000 in
theorem script_walk (w : World) (A As : Option Addr) (n c m cs : Nat) (x : List Int) (ss : List St) (hl : n = x.length) (hm : m = ss.length) (hr : Rd w A (clsN x)) (hrs : Rd w As (clsT ss)) (hn : x.length + ss.length + 1 ≤ 26388279066624) :
    Calls Try.prog 15 #[.slice A n c, .slice As m cs] w (Two w (Hp.outN (Hp.init ltI x) ss) (Hp.pops ltI (Hp.aftN (Hp.init ltI x) ss).length (Hp.aftN (Hp.init ltI x) ss))) := by
  subst hl
  subst hm
  obtain ⟨A1, c1, w1, hrun1, ho1, hb1⟩ := run_copy_ints w A c x hr (by omega) 22
  have HRUN1 := Lib.hid hrun1
  have hs1 := hb1.size
  have hn1 : N3 w.heap.size (w1.alloc (.cells #[.slice A1 x.length c1] 47)) w1.heap.size (.slice A1 x.length c1) (.slice none 0 0) (.slice none 0 0) x [] [] :=
    ⟨heap_alloc_new _ _, ho1.alloc _, World.ownsRow_nil _ _ _ _, World.ownsRow_nil _ _ _ _, fun k _ => by simp [Value.ownBlock], fun k _ => by simp [Value.ownBlock], fun k h => by simp [Value.ownBlock] at h, by simp; omega, hs1⟩
  have HB1 := Lib.hid (hb1.alloc hs1 (.cells #[.slice A1 x.length c1] 47))
  have HN1 := Lib.hid hn1
  have HRS := Lib.hid hrs
  have HRN := Lib.hid (RN.begin hn1 (Nat.le_refl _) (by omega))
  clear hr hrs hrun1 ho1 hb1 hn1
  go_enter Try.func15, Try.ntmps15
  go_wp2_with (at_builtin; refine wpList_append_run rfl _ _ _ rfl _ _ _ _ rfl rfl HRUN1.out ?_)
  refine (init_any (ints_HI w.heap.size _ w1.heap.size _ x.length) x [] _ HRN.out (Nat.le_refl _)).mono ?_
  rintro e w2 ⟨rfl, hR2⟩
  obtain ⟨vh2, hn2, hb2⟩ := HN1.out.moved hR2
  have hil := Hp.length_init ltI x
  obtain ⟨L0, hL0⟩ : ∃ L0, L0 = Hp.init ltI x := ⟨_, rfl⟩
  rw [← hL0] at hn2 hil
  have HL0 := Lib.hid hL0
  have HN2 := Lib.hid hn2
  have HB2 := Lib.hid (HB1.out.trans hb2)
  have hil' : L0.length ≤ x.length := Nat.le_of_eq hil
  obtain ⟨hb, hhb⟩ : ∃ hb, hb = w1.heap.size := ⟨_, rfl⟩
  rw [← hhb] at HN2 ⊢
  clear hR2 hn2 hb2 hil hL0 hhb HN1 HB1 HRN HRUN1
  go_wp2_with fail
  go_loopw [7, 17] (fun s7 s17 wr => ∃ (k : Nat) (vh : Value) (L O : List Int), s17 = .int .i64 (k : Int) ∧ k ≤ ss.length ∧ L.length ≤ x.length + k ∧ O.length ≤ k ∧ Aside (N3 w.heap.size wr hb vh s7 (.slice none 0 0) L O []) ∧ Below w.heap.size w wr ∧
      Hid (L = Hp.aftN L0 (ss.take k) ∧ O = Hp.outN L0 (ss.take k)))
    (fun _ s17 _ => ss.length - (intOf s17).toNat)
  case atStart => exact ⟨0, vh2, L0, [], rfl, by omega, by omega, by simp, HN2.out, HB2.out, rfl, rfl⟩
  case round =>
    obtain ⟨k, vh, L, O, rfl, hk, hll, hol, hn3, hbw, HEQ⟩ := hrel
    clear HN2 HB2
    have hsz := hbw.size
    by_cases hlt : k < ss.length
    · obtain ⟨b, o, hAs, hbb, h1, h2, h3, h4⟩ := (HRS.out.below hbw (Nat.le_refl _)).atT k hlt
      subst hAs
      obtain ⟨⟨q, a, kk, t⟩, hx⟩ : ∃ s, g ss k = s := ⟨_, rfl⟩
      rw [hx] at h1 h2 h3 h4
      have heq : (Hp.stpN (q, a, kk, t) L).1 = Hp.aftN L0 (ss.take (k + 1)) ∧ O ++ (Hp.stpN (q, a, kk, t) L).2 = Hp.outN L0 (ss.take (k + 1)) := by
        obtain ⟨e1, e2⟩ := HEQ.out
        rw [Hp.aftN_succ ss L0 k hlt, Hp.outN_succ ss L0 k hlt, hx, ← e1, ← e2]
        exact ⟨rfl, rfl⟩
      have hlen := Hp.stpN_length (q, a, kk, t) L
      have HN1 := Lib.hid (hn3.out.new ((Below.refl _ _).alloc (Nat.le_refl _) (.cells #[.int .i64 q, .int .i64 a, .int .i64 kk, .int .i64 t] 36)))
      have HB1 := Lib.hid (hbw.alloc hsz (.cells #[.int .i64 q, .int .i64 a, .int .i64 kk, .int .i64 t] 36))
      have hno : O.length + 1 ≤ 26388279066624 := by omega
      have hnl : L.length + 1 ≤ 26388279066624 := by omega
      obtain ⟨Av, cv, hvh⟩ := own_slice hn3.out.heap
      subst hvh
      have hcell := cell_of_one hn3.out.box
      have hzb := lt_of_block hn3.out.box
      have HVO := Lib.hid (fun k' hk' => (hn3.out.oa.lt k' hk').2)
      have HN0 := Lib.hid hn3.out
      clear hx hbw hn3 HEQ
      by_cases h5 : q = 5
      · subst h5
        have hst : Hp.stpN (5, a, kk, t) L = (Hp.init ltI L, []) := by unfold Hp.stpN; rw [if_pos rfl]
        rw [hst] at heq hlen
        rw [List.append_nil] at heq
        have hll3 : (Hp.init ltI L).length ≤ x.length + (k + 1) := by rw [Hp.length_init]; omega
        have hol3 : O.length ≤ k + 1 := by omega
        have HEQ3 := Lib.hid heq
        have HRN := Lib.hid (RN.begin HN1.out (Nat.le_refl _) (by omega))
        clear hst heq hlen
        go_wp2_with fail
        refine (init_any (ints_HI w.heap.size _ hb _ L.length) L [] _ HRN.out (Nat.le_refl _)).mono ?_
        rintro e w2 ⟨rfl, hR2⟩
        obtain ⟨vh3, hn3, hb3⟩ := HN1.out.moved hR2
        have HN3 := Lib.hid hn3
        have HB3 := Lib.hid (HB1.out.trans hb3)
        clear hR2 hn3 hb3
        clear hcell h1 h2 h3 h4
        go_wp2
        go_roundw
        case rel => exact ⟨k + 1, _, (Hp.init ltI L), O, by go_num, by omega, hll3, hol3, HN3.out, HB3.out, HEQ3⟩
        case measure => simp [intOf]; omega
      have hk5 : (q == 5) = false := by simpa using h5
      by_cases h1' : q = 1
      · subst h1'
        have hst : Hp.stpN (1, a, kk, t) L = (Hp.push ltI L kk, []) := by unfold Hp.stpN; rw [if_neg (by simp), if_pos rfl]
        rw [hst] at heq hlen
        rw [List.append_nil] at heq
        have hll3 : (Hp.push ltI L kk).length ≤ x.length + (k + 1) := by rw [Hp.length_push]; omega
        have hol3 : O.length ≤ k + 1 := by omega
        have HEQ3 := Lib.hid heq
        have HRN := Lib.hid (RN.begin (N := L.length + 1) HN1.out (Nat.le_succ _) (by omega))
        clear hst heq hlen h5
        go_wp2_with fail
        refine (push_any (ints_HI w.heap.size _ hb _ (L.length + 1)) (ints_HPush w.heap.size _ hb _ (L.length + 1) hnl HN1.out.low) L [] kk _ HRN.out (Nat.lt_succ_self _) (Nat.lt_succ_self _)).mono ?_
        rintro e w2 ⟨rfl, hR2⟩
        obtain ⟨vh3, hn3, hb3⟩ := HN1.out.moved hR2
        have HN3 := Lib.hid hn3
        have HB3 := Lib.hid (HB1.out.trans hb3)
        clear hR2 hn3 hb3
        clear hcell h1 h2 h3 h4
        go_wp2
        go_roundw
        case rel => exact ⟨k + 1, _, (Hp.push ltI L kk), O, by go_num, by omega, hll3, hol3, HN3.out, HB3.out, HEQ3⟩
        case measure => simp [intOf]; omega
      have hk1 : (q == 1) = false := by simpa using h1'
      by_cases h0 : L.length = 0
      · have hst : Hp.stpN (q, a, kk, t) L = (L, []) := by unfold Hp.stpN; rw [if_neg h5, if_neg h1', if_pos h0]
        rw [hst] at heq hlen
        rw [List.append_nil] at heq
        have hll3 : L.length ≤ x.length + (k + 1) := by omega
        have hol3 : O.length ≤ k + 1 := by omega
        have HEQ3 := Lib.hid heq
        have hq0 : ((L.length : Int) == 0) = true := by rw [h0]; rfl
        clear hst heq hlen h5 h1' h0
        go_wp2
        go_roundw
        case rel => exact ⟨k + 1, _, L, O, by go_num, by omega, hll3, hol3, HN1.out, HB1.out, HEQ3⟩
        case measure => simp [intOf]; omega
      have hq0 : ((L.length : Int) == 0) = false := by simp; intro e; rw [e] at h0; exact h0 rfl
      have hpos : 0 < L.length := by omega
      have hta := run_assert_int
      obtain ⟨y, hy⟩ : ∃ y, g L 0 = y := ⟨_, rfl⟩
      have HRN := Lib.hid (RN.begin HN1.out (Nat.le_refl _) (by omega))
      by_cases h2' : q = 2
      · subst h2'
        have hst : Hp.stpN (2, a, kk, t) L = ((Hp.popD ltI L).dropLast, [y]) := by unfold Hp.stpN; rw [if_neg (by simp), if_neg (by simp), if_neg h0, if_pos rfl, hy]
        rw [hst] at heq hlen
        have hll3 : (Hp.popD ltI L).dropLast.length ≤ x.length + (k + 1) := by have := hlen.1; simp only [] at this; omega
        have hol3 : (O ++ [y]).length ≤ k + 1 := by rw [List.length_append]; simp; omega
        have HEQ3 := Lib.hid heq
        have hc := pop_any (ints_HI w.heap.size _ hb _ L.length) (ints_HPop w.heap.size _ hb _ L.length) L [] _ HRN.out hpos (Nat.lt_succ_self _)
        rw [hy] at hc
        unfold encN at hc
        have HC := Lib.hid hc
        clear hst heq hlen h5 h1' h0 hc hy
        go_wp2_with fail
        refine HC.out.mono ?_
        rintro e w2 ⟨rfl, hR2⟩
        clear hcell h1 h2 h3 h4 HC
        obtain ⟨vh3, hn3, hb3⟩ := HN1.out.moved hR2
        have HN3 := Lib.hid hn3
        have HB3 := Lib.hid (HB1.out.trans hb3)
        have hz4 := heap_alloc_new w2 (.cells #[.int .i64 y] 3)
        have HZ4 := Lib.hid hz4
        have HL4 := Lib.hid (show w.heap.size ≤ (w2.alloc (.cells #[.int .i64 y] 3)).heap.size by have := hn3.low; simp; omega)
        clear hR2 hn3 hb3 hz4
        go_wp2_with (at_builtin; refine wpList_append_int rfl _ _ rfl _ w.heap.size O y w2.heap.size rfl rfl (HN3.out.oa.alloc _) HZ4.out hno HL4.out ?_)
        intro A5 c5 w5 ho5 hg5 hl5
        obtain ⟨hn5, hb5⟩ := HN3.out.pushed ((Below.refl _ _).alloc (Nat.le_refl _) _) ho5 hg5 (heap_size_alloc _ _) (by simpa using hl5)
        have HN5 := Lib.hid hn5
        have HB5 := Lib.hid (HB3.out.trans hb5)
        clear hn5 hb5 ho5 hg5 hl5
        go_wp2
        go_roundw
        case rel => exact ⟨k + 1, _, _, (O ++ [y]), by go_num, by omega, hll3, hol3, HN5.out, HB5.out, HEQ3⟩
        case measure => simp [intOf]; omega
      have hk2 : (q == 2) = false := by simpa using h2'
      by_cases h3' : q = 3
      · subst h3'
        have hst : Hp.stpN (3, a, kk, t) L = ((Hp.rem ltI L 0).dropLast, [y]) := by unfold Hp.stpN; rw [if_neg (by simp), if_neg (by simp), if_neg h0, if_neg (by simp), if_pos rfl, hy]
        rw [hst] at heq hlen
        have hll3 : (Hp.rem ltI L 0).dropLast.length ≤ x.length + (k + 1) := by have := hlen.1; simp only [] at this; omega
        have hol3 : (O ++ [y]).length ≤ k + 1 := by rw [List.length_append]; simp; omega
        have HEQ3 := Lib.hid heq
        have hc := remove_any (ints_HI w.heap.size _ hb _ L.length) (ints_HPop w.heap.size _ hb _ L.length) L [] 0 _ HRN.out hpos (Nat.lt_succ_self _)
        rw [hy, show ((0 : Nat) : Int) = 0 from rfl] at hc
        unfold encN at hc
        have HC := Lib.hid hc
        clear hst heq hlen h5 h1' h0 hc hy h2'
        go_wp2_with fail
        refine HC.out.mono ?_
        rintro e w2 ⟨rfl, hR2⟩
        clear hcell h1 h2 h3 h4 HC
        obtain ⟨vh3, hn3, hb3⟩ := HN1.out.moved hR2
        have HN3 := Lib.hid hn3
        have HB3 := Lib.hid (HB1.out.trans hb3)
        have hz4 := heap_alloc_new w2 (.cells #[.int .i64 y] 3)
        have HZ4 := Lib.hid hz4
        have HL4 := Lib.hid (show w.heap.size ≤ (w2.alloc (.cells #[.int .i64 y] 3)).heap.size by have := hn3.low; simp; omega)
        clear hR2 hn3 hb3 hz4
        go_wp2_with (at_builtin; refine wpList_append_int rfl _ _ rfl _ w.heap.size O y w2.heap.size rfl rfl (HN3.out.oa.alloc _) HZ4.out hno HL4.out ?_)
        intro A5 c5 w5 ho5 hg5 hl5
        obtain ⟨hn5, hb5⟩ := HN3.out.pushed ((Below.refl _ _).alloc (Nat.le_refl _) _) ho5 hg5 (heap_size_alloc _ _) (by simpa using hl5)
        have HN5 := Lib.hid hn5
        have HB5 := Lib.hid (HB3.out.trans hb5)
        clear hn5 hb5 ho5 hg5 hl5
        go_wp2
        go_roundw
        case rel => exact ⟨k + 1, _, _, (O ++ [y]), by go_num, by omega, hll3, hol3, HN5.out, HB5.out, HEQ3⟩
        case measure => simp [intOf]; omega
      have hk3 : (q == 3) = false := by simpa using h3'
      by_cases h4' : q = 4
      · subst h4'
        have hst : Hp.stpN (4, a, kk, t) L = (Hp.fix ltI (L.set 0 kk) 0, [y]) := by unfold Hp.stpN; rw [if_neg (by simp), if_neg (by simp), if_neg h0, if_neg (by simp), if_neg (by simp), if_pos rfl, hy]
        rw [hst] at heq hlen
        have hll3 : (Hp.fix ltI (L.set 0 kk) 0).length ≤ x.length + (k + 1) := by rw [Hp.length_fix, List.length_set]; omega
        have hol3 : (O ++ [y]).length ≤ k + 1 := by rw [List.length_append]; simp; omega
        have HEQ3 := Lib.hid heq
        obtain ⟨gb, hAv, hgb1, hgb2⟩ := own_addr HN0.out.heap hpos
        subst hAv
        have cy := (HN0.out.heap.cellAt 0 (by omega)).trans (clsN_at L 0 hpos)
        rw [hy] at cy
        have hz4 := heap_alloc_new (wr.alloc (.cells #[.int .i64 4, .int .i64 a, .int .i64 kk, .int .i64 t] 36)) (.cells #[.int .i64 y] 3)
        rw [heap_size_alloc] at hz4
        have HZ4 := Lib.hid hz4
        have HL4 := Lib.hid (show w.heap.size ≤ ((wr.alloc (.cells #[.int .i64 4, .int .i64 a, .int .i64 kk, .int .i64 t] 36)).alloc (.cells #[.int .i64 y] 3)).heap.size by simp; omega)
        clear hst heq hlen h5 h1' h0 h2' h3' hz4 hy HRN
        go_wp2_with (at_builtin; refine wpList_append_int rfl _ _ rfl _ w.heap.size O y (wr.heap.size + 1) rfl rfl (HN1.out.oa.alloc _) HZ4.out hno HL4.out ?_)
        intro A5 c5 w5 ho5 hg5 hl5
        have ck := hg5.cell (a := ⟨wr.heap.size, 2, none⟩) (v := .int .i64 kk) (by rw [World.cell?_alloc_lt _ _ _ (by simp)]; simp) (fun e => absurd (HVO.out _ e.symm) (Nat.lt_irrefl _))
        have hz5 : wr.heap.size < w5.heap.size := by have := hg5.size; simp at this; omega
        obtain ⟨hn5, hb5⟩ := HN1.out.pushed ((Below.refl _ _).alloc (Nat.le_refl _) _) ho5 hg5 rfl (by simpa using hl5)
        have hcell5 := cell_of_one hn5.box
        have hzb5 := lt_of_block hn5.box
        have hgb5 := (hn5.heap.lt gb rfl).2
        have cy5 := (hn5.heap.cellAt 0 (by omega)).trans (clsN_at L 0 hpos)
        have hf5 := fun j => hn5.heap.frozenAt j
        obtain ⟨hn6, hb6⟩ := hn5.stored 0 kk
        have HN6 := Lib.hid hn6
        have HRN6 := Lib.hid (RN.begin hn6 (Nat.le_refl _) (by rw [List.length_set]; omega))
        have HB6 := Lib.hid ((HB1.out.trans hb5).trans hb6)
        clear hn5 hb5 ho5 hg5 hl5 hn6 hb6 hcell h1 h2 h3 h4 cy
        go_wp2_with fail
        have hc := fix_any (ints_HI w.heap.size _ hb _ (L.set 0 kk).length) (L.set 0 kk) [] 0 _ HRN6.out (by simpa using hpos) (Nat.le_refl _)
        rw [show ((0 : Nat) : Int) = 0 from rfl] at hc
        refine hc.mono ?_
        clear hc
        rintro e w7 ⟨rfl, hR7⟩
        obtain ⟨vh7, hn7, hb7⟩ := HN6.out.moved hR7
        have HN7 := Lib.hid hn7
        have HB7 := Lib.hid (HB6.out.trans hb7)
        clear hR7 hn7 hb7 ck hcell5 cy5 hf5
        go_wp2
        go_roundw
        case rel => exact ⟨k + 1, _, _, (O ++ [y]), by go_num, by omega, hll3, hol3, HN7.out, HB7.out, HEQ3⟩
        case measure => simp [intOf]; omega
      have hk4 : (q == 4) = false := by simpa using h4'
      have hst : Hp.stpN (q, a, kk, t) L = (L, []) := by unfold Hp.stpN; rw [if_neg h5, if_neg h1', if_neg h0, if_neg h2', if_neg h3', if_neg h4']
      rw [hst] at heq hlen
      rw [List.append_nil] at heq
      have hll3 : L.length ≤ x.length + (k + 1) := by omega
      have hol3 : O.length ≤ k + 1 := by omega
      have HEQ3 := Lib.hid heq
      clear hst heq hlen h5 h1' h0 hta hy h2' h3' h4'
      go_wp2
      go_roundw
      case rel => exact ⟨k + 1, _, L, O, by go_num, by omega, hll3, hol3, HN1.out, HB1.out, HEQ3⟩
      case measure => simp [intOf]; omega
    · have hkl : k = ss.length := by omega
      have heq : L = Hp.aftN L0 ss ∧ O = Hp.outN L0 ss := by have := HEQ.out; rwa [hkl, List.take_of_length_le (Nat.le_refl _)] at this
      have HEQF := Lib.hid heq
      have HN1 := Lib.hid hn3.out
      have HBW := Lib.hid hbw
      have hta := run_assert_int
      clear hkl heq hn3 hbw HEQ
      obtain ⟨R, hR⟩ : ∃ R, R = Hp.pops ltI L.length L := ⟨_, rfl⟩
      have HRE := Lib.hid hR
      have hLn : L.length ≤ x.length + ss.length := by omega
      clear hR
      go_wp2_with fail
      go_loopg [8] L.length (fun j s8 wi => ∃ (vh : Value) (L' r : List Int), Hid (L'.length = j) ∧ r.length + j ≤ L.length ∧ Aside (N3 w.heap.size wi hb vh u7 s8 L' O r) ∧ Below w.heap.size w wi ∧ Hid (r ++ Hp.pops ltI j L' = R))
      case atStart => exact ⟨vh, L, [], rfl, by simp, HN1.out, HBW.out, by rw [HRE.out]; rfl⟩
      case round =>
        obtain ⟨vi, L', r, HLJ, hrl, hn3, hbi, HPR⟩ := hrel
        have HNI := Lib.hid hn3.out
        have HBI := Lib.hid hbi
        obtain ⟨Av, cv, hvh⟩ := own_slice hn3.out.heap
        subst hvh
        have hcell := cell_of_one hn3.out.box
        have hzb := lt_of_block hn3.out.box
        clear hn3 hbi HN1 HBW
        cases gk with
        | zero =>
          have hq0 : decide (0 < L'.length) = false := by rw [HLJ.out]; rfl
          have hq1 : L'.length ≤ 0 := by rw [HLJ.out]; exact Nat.le_refl _
          go_wp2
          have hr := HPR.out
          rw [Hp.pops, List.append_nil] at hr
          have h3 := HNI.out
          obtain ⟨e1, e2⟩ := HEQF.out
          obtain ⟨Aa, ca, ha⟩ := own_slice h3.oa
          obtain ⟨Ab, cb, hb'⟩ := own_slice h3.ob
          subst ha
          subst hb'
          go_ret2
          rw [← HL0.out, ← e1, ← e2, ← HRE.out, ← hr]
          exact ⟨Aa, ca, Ab, cb, rfl, h3.oa, h3.ob, h3.ab, HBI.out⟩
        | succ j =>
          have hpos : 0 < L'.length := by rw [HLJ.out]; omega
          have hpos' : (0 : Int) < (L'.length : Int) := by omega
          have hLl : L'.length ≤ L.length := by rw [HLJ.out]; omega
          obtain ⟨y, hy⟩ : ∃ y, g L' 0 = y := ⟨_, rfl⟩
          have HRN := Lib.hid (RN.begin HNI.out (Nat.le_refl _) (by omega))
          have hc := pop_any (ints_HI w.heap.size _ hb _ L'.length) (ints_HPop w.heap.size _ hb _ L'.length) L' [] _ HRN.out hpos (Nat.lt_succ_self _)
          rw [hy] at hc
          unfold encN at hc
          have HC := Lib.hid hc
          have hps := pops_step L' j r R HPR.out
          rw [hy] at hps
          have HPS := Lib.hid hps
          have HLD := Lib.hid (show (Hp.popD ltI L').dropLast.length = j by rw [List.length_dropLast, Hp.length_popD, HLJ.out]; rfl)
          have hnr : r.length + 1 ≤ 26388279066624 := by omega
          clear hc hps hy
          go_wp2_with fail
          refine HC.out.mono ?_
          rintro e w2 ⟨rfl, hR2⟩
          obtain ⟨vh3, hn3, hb3⟩ := HNI.out.moved hR2
          have HN3 := Lib.hid hn3.swap
          have HB3 := Lib.hid (HBI.out.trans hb3)
          have hz4 := heap_alloc_new w2 (.cells #[.int .i64 y] 3)
          have HZ4 := Lib.hid hz4
          have HL4 := Lib.hid (show w.heap.size ≤ (w2.alloc (.cells #[.int .i64 y] 3)).heap.size by have := hn3.low; simp; omega)
          clear hR2 hn3 hb3 hz4 hcell HC
          go_wp2_with (at_builtin; refine wpList_append_int rfl _ _ rfl _ w.heap.size r y w2.heap.size rfl rfl (HN3.out.oa.alloc _) HZ4.out hnr HL4.out ?_)
          intro A5 c5 w5 ho5 hg5 hl5
          obtain ⟨hn5, hb5⟩ := HN3.out.pushed ((Below.refl _ _).alloc (Nat.le_refl _) _) ho5 hg5 (heap_size_alloc _ _) (by simpa using hl5)
          have HN5 := Lib.hid hn5.swap
          have HB5 := Lib.hid (HB3.out.trans hb5)
          clear hn5 hb5 ho5 hg5 hl5
          go_wp2
          go_roundg j
          case measure => omega
          case rel => exact ⟨_, (Hp.popD ltI L').dropLast, r ++ [y], HLD, by rw [List.length_append]; simp; omega, HN5.out, HB5.out, HPS⟩
end Go.Proofs.Ytjojlnmcifkenaa
