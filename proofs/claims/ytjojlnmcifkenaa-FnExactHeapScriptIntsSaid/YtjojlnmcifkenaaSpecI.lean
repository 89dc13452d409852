/-
  The reference of a script of numbers: spec.fewer, ranked, ascending, without, HeapScriptInts: what they return. Conditions: memory holds the numbers and the steps; they are within the reach of slices.
-/
import Derived.Test.YtjojlnmcifkenaaScriptL
import Derived.Test.YtjojlnmcifkenaaPlainR
namespace Go.Proofs.Ytjojlnmcifkenaa
open Go.RowKit Go.Shelf
open Hp (g swp Ev St plc srt lessN mostN stpH aftH outH)

set_option maxHeartbeats 1000000 in
set_option maxRecDepth 100000 in
theorem fewer_any (w : World) (A : Option Addr) (n c : Nat) (x : List Int) (v : Int) (hl : n = x.length) (hr : Rd w A (clsN x)) (hn : x.length ≤ 26388279066624) :
    Calls Try.prog 38 #[.slice A n c, .int .i64 v] w fun e w' => e = .returned (.tuple #[.int .i64 (lessN x v : Nat), .int .i64 (mostN x v : Nat)]) ∧ w = w' := by
  subst hl
  go_enter Try.func38, Try.ntmps38
  go_wp2
  go_loopw [6, 7, 12] (fun s6 s7 s12 wr => ∃ (k p q : Nat), s12 = .int .i64 (k : Int) ∧ k ≤ x.length ∧ s6 = .int .i64 (p : Int) ∧ s7 = .int .i64 (q : Int) ∧ p ≤ k ∧ q ≤ k ∧ Hid (p = lessN (x.take k) v ∧ q = mostN (x.take k) v) ∧ wr = w) (fun _ _ s12 _ => x.length - (intOf s12).toNat)
  case atStart => exact ⟨0, 0, 0, rfl, by omega, rfl, rfl, by omega, by omega, ⟨rfl, rfl⟩, rfl⟩
  case round =>
    obtain ⟨k, p, q, rfl, hk, rfl, rfl, hp, hq, HPQ, rfl⟩ := hrel
    by_cases hlt : k < x.length
    · obtain ⟨b, o, hA, hbb, h1⟩ := hr.atN k hlt
      subst hA
      have e1 := Hp.lessN_succ x k hlt v
      have e2 := Hp.mostN_succ x k hlt v
      rw [← HPQ.out.1] at e1
      rw [← HPQ.out.2] at e2
      obtain ⟨y, hy⟩ : ∃ y, g x k = y := ⟨_, rfl⟩
      rw [hy] at h1 e1 e2
      have HE := Lib.hid (And.intro e1 e2)
      clear hy e1 e2 HPQ hr
      by_cases hlv : y < v
      · have hle : y ≤ v := by omega
        go_wp2
        go_roundw
        case rel => exact ⟨k + 1, p + 1, q + 1, by go_num, by omega, by go_num, by go_num, by omega, by omega, ⟨by rw [HE.out.1, if_pos hlv], by rw [HE.out.2, if_pos hle]⟩, trivial⟩
        case measure => simp [intOf]; omega
      · by_cases hle : y ≤ v
        · go_wp2
          go_roundw
          case rel => exact ⟨k + 1, p, q + 1, by go_num, by omega, rfl, by go_num, by omega, by omega, ⟨by rw [HE.out.1, if_neg hlv]; rfl, by rw [HE.out.2, if_pos hle]⟩, trivial⟩
          case measure => simp [intOf]; omega
        · go_wp2
          go_roundw
          case rel => exact ⟨k + 1, p, q, by go_num, by omega, rfl, rfl, by omega, by omega, ⟨by rw [HE.out.1, if_neg hlv]; rfl, by rw [HE.out.2, if_neg hle]; rfl⟩, trivial⟩
          case measure => simp [intOf]; omega
    · go_wp2
      go_ret2
      have hkl : k = x.length := by omega
      have h9 := HPQ.out
      rw [hkl, List.take_length] at h9
      exact ⟨by rw [h9.1, h9.2]; rfl, rfl⟩

set_option maxHeartbeats 1000000 in
set_option maxRecDepth 100000 in
theorem ranked_any (w : World) (A : Option Addr) (n c : Nat) (x : List Int) (p : Nat) (hl : n = x.length) (hr : Rd w A (clsN x)) (hn : x.length ≤ 26388279066624) (hp : p < x.length) :
    Calls Try.prog 28 #[.slice A n c, .int .i64 (p : Int)] w fun e w' => e = .returned (.int .i64 (g (srt x) p)) ∧ w = w' := by
  subst hl
  have HR := Lib.hid hr
  clear hr
  go_enter Try.func28, Try.ntmps28
  go_wp2
  go_loopw [11] (fun s11 wr => ∃ (k : Nat), s11 = .int .i64 (k : Int) ∧ k ≤ x.length ∧ Hid (∀ j, j < k → g x j ≠ g (srt x) p) ∧ wr = w) (fun s11 _ => x.length - (intOf s11).toNat)
  case atStart => exact ⟨0, rfl, by omega, fun j hj => by omega, rfl⟩
  case round =>
    obtain ⟨k, rfl, hk, HN, rfl⟩ := hrel
    by_cases hlt : k < x.length
    · obtain ⟨b, o, hA, hbb, h1⟩ := HR.out.atN k hlt
      have hrk := Hp.rank_iff x (g x k) p hp
      have hx := HR.out
      obtain ⟨y, hy⟩ : ∃ y, g x k = y := ⟨_, rfl⟩
      rw [hy] at h1 hrk
      have HY := Lib.hid hy
      have hfw := fewer_any wr A x.length c x y rfl hx hn
      obtain ⟨ls, hls⟩ : ∃ ls, ls = lessN x y := ⟨_, rfl⟩
      obtain ⟨ms, hms⟩ : ∃ ms, ms = mostN x y := ⟨_, rfl⟩
      rw [← hls, ← hms] at hrk hfw
      have HFW := Lib.hid hfw
      have hlsb : ls ≤ x.length := by rw [hls]; exact List.countP_le_length
      have hmsb : ms ≤ x.length := by rw [hms]; exact List.countP_le_length
      clear hy hfw hls hms hx
      rw [hA] at HFW
      subst hA
      by_cases h2 : ls ≤ p
      · by_cases h3 : p < ms
        · have he := hrk.1 ⟨h2, h3⟩
          have HE := Lib.hid he
          clear hrk he
          go_wp2_with (go_at_call 38; refine HFW.out.mono ?_; rintro e w' ⟨rfl, rfl⟩)
          go_ret
          exact ⟨by rw [HE.out]; rfl, rfl⟩
        · have hne : y ≠ g (srt x) p := fun e => h3 (hrk.2 e.symm).2
          have HNE := Lib.hid hne
          clear hrk hne
          go_wp2_with (go_at_call 38; refine HFW.out.mono ?_; rintro e w' ⟨rfl, rfl⟩)
          go_roundw
          case rel =>
            refine ⟨k + 1, by go_num, by omega, ?_, trivial⟩
            intro j hj
            by_cases e : j = k
            · rw [e, HY.out]; exact HNE.out
            · exact HN.out j (by omega)
          case measure => simp [intOf]; omega
      · have hne : y ≠ g (srt x) p := fun e => h2 (hrk.2 e.symm).1
        have HNE := Lib.hid hne
        clear hrk hne
        go_wp2_with (go_at_call 38; refine HFW.out.mono ?_; rintro e w' ⟨rfl, rfl⟩)
        go_roundw
        case rel =>
          refine ⟨k + 1, by go_num, by omega, ?_, trivial⟩
          intro j hj
          by_cases e : j = k
          · rw [e, HY.out]; exact HNE.out
          · exact HN.out j (by omega)
        case measure => simp [intOf]; omega
    · exfalso
      have hm : g (srt x) p ∈ x := (Hp.perm_srt x).mem_iff.1 (Hp.mem_g (by rw [Hp.length_srt]; exact hp))
      obtain ⟨j, hj, e⟩ := Hp.g_of_mem hm
      exact HN.out j (by omega) e

/-- Two own lists of numbers, apart from each other. -/
structure N2 (B : Nat) (w : World) (va vb : Value) (a b : List Int) : Prop where
  oa : w.ownsRow B 3 1 va a.length (clsN a)
  ob : w.ownsRow B 3 1 vb b.length (clsN b)
  ab : ∀ k, va.ownBlock = some k → vb.ownBlock ≠ some k
  low : B ≤ w.heap.size
section
variable {B : Nat} {w w' : World} {va vb : Value} {a b : List Int}
theorem N2.swap (h : N2 B w va vb a b) : N2 B w vb va b a := ⟨h.ob, h.oa, fun k h1 h2 => h.ab k h2 h1, h.low⟩
theorem N2.new (h : N2 B w va vb a b) (hw : Below w.heap.size w w') : N2 B w' va vb a b := by
  have f : Frm (fun _ => False) w w' := Frm.of_new hw
  exact ⟨own_frm h.oa f (fun _ _ e => e), own_frm h.ob f (fun _ _ e => e), h.ab, Nat.le_trans h.low hw.size⟩
theorem N2.fresh (h : N2 B w va vb a b) (hw : Below w.heap.size w w') {vc : Value} {c : List Int} (ho : w'.ownsRow w.heap.size 3 1 vc c.length (clsN c)) : N2 B w' vc vb c b :=
  ⟨own_base ho h.low, (h.new hw).ob, fun k h1 h2 => by have e1 := (ho.lt k h1).1; have e2 := (h.ob.lt k h2).2; omega, (h.new hw).low⟩
theorem N2.app (h : N2 B w va vb a b) (x : Int) (gs : Nat) (hg : w.heap[gs]? = some (.cells #[.int .i64 x] 3 (0, 0))) (hn : a.length + 1 ≤ 26388279066624) (ty : TypeId) :
    ∃ A c w5, (Builtin.append_ #[22, 22] ty #[va, .slice (some ⟨gs, 0, none⟩) 1 1]).run Try.prog w = .ok (.slice A (a ++ [x]).length c) w5 ∧ N2 B w5 (.slice A (a ++ [x]).length c) vb (a ++ [x]) b ∧ Below B w w5 ∧ w.grownBy w5 va.ownBlock := by
  obtain ⟨A, c, w5, hr, ho, hgr, hl⟩ := run_append_int Try.underlying22 h.oa x gs hg hn h.low ty
  have e : (a ++ [x]).length = a.length + 1 := by simp
  rw [e]
  have hf : Frm (fun k => va.ownBlock = some k) w w5 := Frm.of_grown hgr (fun _ e => e)
  have hL : Lies w va (.slice A (a.length + 1) c) := Lies.of_or hl (Nat.le_refl _)
  refine ⟨A, c, w5, hr, ⟨by rw [e]; exact ho, own_frm h.ob hf (fun k hk e => h.ab k e hk), ?_, Nat.le_trans h.low hf.size⟩, hf.below h.low (fun i e => (h.oa.lt i e).1), hgr⟩
  intro k hk hk2
  rcases hL k hk with e | e
  · exact h.ab k e hk2
  · have := (h.ob.lt k hk2).2
    omega
end

set_option maxHeartbeats 1000000 in
set_option maxRecDepth 100000 in
theorem ascending_any (w : World) (A : Option Addr) (n c : Nat) (x : List Int) (hl : n = x.length) (hr : Rd w A (clsN x)) (hn : x.length + 1 ≤ 26388279066624) :
    Calls Try.prog 30 #[.slice A n c, .int .i64 (n : Int)] w (NewInts w (srt x)) := by
  subst hl
  have HR := Lib.hid hr
  clear hr
  go_enter Try.func30, Try.ntmps30
  go_wp2
  go_loopw [5, 6] (fun s5 s6 wr => ∃ (k : Nat) (A5 : Option Addr) (c5 : Nat), s6 = .int .i64 (k : Int) ∧ k ≤ x.length ∧ s5 = .slice A5 k c5 ∧ Aside (wr.ownsRow w.heap.size 3 1 (.slice A5 k c5) k (clsN ((srt x).take k))) ∧ Below w.heap.size w wr) (fun _ s6 _ => x.length - (intOf s6).toNat)
  case atStart => exact ⟨0, none, 0, rfl, by omega, rfl, World.ownsRow_nil _ _ _ _, Below.refl _ _⟩
  case round =>
    obtain ⟨k, A5, c5, rfl, hk, rfl, hown, hb⟩ := hrel
    have hsz := hb.size
    by_cases hlt : k < x.length
    · have HC := Lib.hid (ranked_any wr A x.length c x k rfl (HR.out.below hb (Nat.le_refl _)) (by omega) hlt)
      obtain ⟨y, hy⟩ : ∃ y, y = g (srt x) k := ⟨_, rfl⟩
      rw [← hy] at HC
      obtain ⟨L, hL⟩ : ∃ L, L = (srt x).take k := ⟨_, rfl⟩
      have hLl : L.length = k := by rw [hL, List.length_take, Hp.length_srt]; omega
      have ho2 : (wr.alloc (.cells #[.int .i64 y] 3)).ownsRow w.heap.size 3 1 (.slice A5 k c5) L.length (clsN L) := by
        rw [hLl, hL]
        exact hown.out.alloc _
      obtain ⟨A6, c6, w6, hrun, ho6, hg6, _⟩ := run_append_int Try.underlying22 ho2 y wr.heap.size (heap_alloc_new _ _) (by rw [hLl]; omega) (by simp; omega) 22
      rw [hLl] at hrun ho6
      have hb2 := hb.alloc hsz (.cells #[.int .i64 y] 3)
      have HRUN := Lib.hid hrun
      have HO6 := Lib.hid (show w6.ownsRow w.heap.size 3 1 (.slice A6 (k + 1) c6) (k + 1) (clsN ((srt x).take (k + 1))) by
        rw [take_succ_g (srt x) k (by rw [Hp.length_srt]; exact hlt), ← hy, ← hL]
        exact ho6)
      have HB6 := Lib.hid (hb2.grown hg6 hb2.size (fun j hj => (ho2.lt j hj).1))
      clear hy hL hLl ho2 hrun ho6 hg6 hb2 hown hb
      go_wp2_with (first
        | (go_at_call 28; refine HC.out.mono ?_; rintro e w' ⟨rfl, rfl⟩)
        | (at_builtin; refine wpList_append_run rfl _ _ _ rfl _ _ _ _ rfl rfl HRUN.out ?_))
      go_roundw
      case rel => exact ⟨k + 1, A6, c6, by go_num, by omega, rfl, HO6.out, HB6.out⟩
      case measure => simp [intOf]; omega
    · have hg1 : decide (k < x.length) = false := decide_eq_false hlt
      go_wp2
      go_ret
      have hkl : k = x.length := by omega
      have ho := hown.out
      rw [hkl, List.take_of_length_le (by rw [Hp.length_srt]; exact Nat.le_refl _), ← Hp.length_srt x] at ho
      exact ⟨A5, c5, by rw [hkl, Hp.length_srt]; rfl, ho, hb⟩

theorem erase_succ (x : List Int) (k : Nat) (h : k < x.length) (v : Int) : (x.take (k + 1)).erase v = if g x k = v ∧ v ∉ x.take k then (x.take k).erase v else (x.take k).erase v ++ [g x k] := by
  rw [take_succ_g x k h]
  by_cases hm : v ∈ x.take k
  · rw [if_neg (fun e => e.2 hm), List.erase_append_left _ hm]
  · rw [List.erase_append_right _ hm, List.erase_of_not_mem hm]
    by_cases e : g x k = v
    · rw [if_pos ⟨e, hm⟩, e]; simp
    · rw [if_neg (fun h => e h.1), List.erase_cons_tail (by simpa using e)]; simp

set_option maxHeartbeats 2000000 in
set_option maxRecDepth 100000 in
theorem without_any (w : World) (A : Option Addr) (n c : Nat) (x : List Int) (v : Int) (hl : n = x.length) (hr : Rd w A (clsN x)) (hn : x.length + 1 ≤ 26388279066624) :
    Calls Try.prog 29 #[.slice A n c, .int .i64 v] w (NewInts w (x.erase v)) := by
  subst hl
  have HR := Lib.hid hr
  clear hr
  go_enter Try.func29, Try.ntmps29
  go_wp2
  go_loopw [5, 6, 11] (fun s5 s6 s11 wr => ∃ (k : Nat) (A5 : Option Addr) (c5 : Nat) (L : List Int) (b : Bool), s11 = .int .i64 (k : Int) ∧ k ≤ x.length ∧ s5 = .slice A5 L.length c5 ∧ s6 = .bool b ∧ L.length ≤ k ∧ Aside (wr.ownsRow w.heap.size 3 1 (.slice A5 L.length c5) L.length (clsN L)) ∧ Below w.heap.size w wr ∧ Hid (L = (x.take k).erase v ∧ b = decide (v ∈ x.take k)))
    (fun _ _ s11 _ => x.length - (intOf s11).toNat)
  case atStart => exact ⟨0, none, 0, [], false, rfl, by omega, rfl, rfl, by simp, World.ownsRow_nil _ _ _ _, Below.refl _ _, rfl, rfl⟩
  case round =>
    obtain ⟨k, A5, c5, L, b, rfl, hk, rfl, rfl, hLk, hown, hb, HEQ⟩ := hrel
    have hsz := hb.size
    by_cases hlt : k < x.length
    · obtain ⟨b', o, hA, hbb, h1⟩ := (HR.out.below hb (Nat.le_refl _)).atN k hlt
      subst hA
      have her := erase_succ x k hlt v
      have hmm : decide (v ∈ x.take (k + 1)) = (decide (g x k = v) || b) := by
        rw [HEQ.out.2, take_succ_g x k hlt, Bool.eq_iff_iff]
        simp only [decide_eq_true_eq, Bool.or_eq_true, List.mem_append, List.mem_singleton]
        constructor
        · rintro (h | h)
          · exact .inr h
          · exact .inl h.symm
        · rintro (h | h)
          · exact .inr h.symm
          · exact .inl h
      have hbb2 : b = true ↔ v ∈ x.take k := by rw [HEQ.out.2]; exact decide_eq_true_iff
      rw [← HEQ.out.1] at her
      obtain ⟨y, hy⟩ : ∃ y, g x k = y := ⟨_, rfl⟩
      rw [hy] at h1 her hmm
      by_cases hc : y = v ∧ b = false
      · obtain ⟨rfl, rfl⟩ := hc
        have HE2 := Lib.hid (show L = (x.take (k + 1)).erase y ∧ true = decide (y ∈ x.take (k + 1)) from ⟨by rw [her, if_pos ⟨rfl, fun h => by have := hbb2.2 h; cases this⟩], by rw [hmm]; simp⟩)
        have HO := Lib.hid hown.out
        clear hy her hmm hbb2 HEQ hown
        go_wp2
        go_roundw
        case rel => exact ⟨k + 1, A5, c5, L, true, by go_num, by omega, rfl, rfl, by omega, HO.out, hb, HE2⟩
        case measure => simp [intOf]; omega
      · have HE2 := Lib.hid (show L ++ [y] = (x.take (k + 1)).erase v ∧ b = decide (v ∈ x.take (k + 1)) from ⟨by
            rw [her, if_neg (fun h => hc ⟨h.1, by cases hb9 : b with | false => rfl | true => exact absurd (hbb2.1 hb9) h.2⟩)], by
            rw [hmm]
            by_cases e : y = v
            · cases hb9 : b with
              | false => exact absurd ⟨e, hb9⟩ hc
              | true => simp
            · simp [e]⟩)
        obtain ⟨A6, c6, w6, hrun, ho6, hg6, _⟩ := run_append_int Try.underlying22 (hown.out.alloc (.cells #[.int .i64 y] 3)) y wr.heap.size (heap_alloc_new _ _) (by omega) (by simp; omega) 22
        have hb2 := hb.alloc hsz (.cells #[.int .i64 y] 3)
        have HLL := Lib.hid (show (L ++ [y]).length = L.length + 1 by simp)
        have HRUN := Lib.hid hrun
        have HO6 := Lib.hid (show w6.ownsRow w.heap.size 3 1 (.slice A6 (L ++ [y]).length c6) (L ++ [y]).length (clsN (L ++ [y])) by rw [HLL.out]; exact ho6)
        have HB6 := Lib.hid (hb2.grown hg6 hb2.size (fun j hj => (hown.out.lt j hj).1))
        have HCC := Lib.hid hc
        clear hy her hmm hbb2 HEQ hown hb hrun ho6 hg6 hb2 hc
        by_cases hyv : y = v
        · obtain rfl : b = true := by cases hb9 : b with | false => exact absurd ⟨hyv, hb9⟩ HCC.out | true => rfl
          have e1 : (y == v) = true := by simpa using hyv
          clear hyv
          go_wp2_with (at_builtin; refine wpList_append_run rfl _ _ _ rfl _ _ _ _ rfl rfl HRUN.out ?_)
          rw [← HLL.out]
          go_roundw
          case rel => exact ⟨k + 1, A6, c6, L ++ [y], true, by go_num, by omega, rfl, rfl, by rw [HLL.out]; omega, HO6.out, HB6.out, HE2⟩
          case measure => simp [intOf]; omega
        · have e1 : (y == v) = false := by simpa using hyv
          clear hyv
          go_wp2_with (at_builtin; refine wpList_append_run rfl _ _ _ rfl _ _ _ _ rfl rfl HRUN.out ?_)
          rw [← HLL.out]
          go_roundw
          case rel => exact ⟨k + 1, A6, c6, L ++ [y], b, by go_num, by omega, rfl, rfl, by rw [HLL.out]; omega, HO6.out, HB6.out, HE2⟩
          case measure => simp [intOf]; omega
    · have hke : k = x.length := by omega
      have h9 := HEQ.out.1
      rw [hke, List.take_length] at h9
      subst h9
      have HO := Lib.hid hown.out
      clear hown HEQ
      go_wp2
      go_ret
      exact ⟨A5, c5, rfl, HO.out, hb⟩
end Go.Proofs.Ytjojlnmcifkenaa
