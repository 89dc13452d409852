/-
  Scripts that the laws make: append of steps; then, pushes, pops. Conditions: memory holds the lists that are handed, and they are short.
-/
import Derived.Test.YtpjdpcpcfcohiaaSteps
import Derived.Test.YtpjdpcpcfcohiaaNums
namespace Go.Proofs.Ytpjdpcpcfcohiaa
open Go.RowKit Go.Shelf
open Hp (g swp Ev St plc)

theorem fits32 {n : Nat} (h : n ≤ 16777216) : (n + n / 4 + 192) * 32 ≤ 281474976710656 := by omega

/-- append of one step onto an own slice. -/
theorem run_append_st {w : World} {B : Nat} {u : Value} {l : List St} (hown : w.ownsRow B 36 4 u l.length (clsT l)) (y : St) (gs : Nat) (hg : w.heap[gs]? = some (.cells #[.int .i64 y.1, .int .i64 y.2.1, .int .i64 y.2.2.1, .int .i64 y.2.2.2] 36 (0, 0)))
    (hn : l.length + 1 ≤ 16777216) (hB : B ≤ w.heap.size) (ty : TypeId) :
    ∃ A' c' w', (Builtin.append_ #[26, 26] ty #[u, .slice (some ⟨gs, 0, none⟩) 1 1]).run Try.prog w = .ok (.slice A' (l.length + 1) c') w' ∧ w'.ownsRow B 36 4 (.slice A' (l.length + 1) c') (l.length + 1) (clsT (l ++ [y])) ∧ w.grownBy w' u.ownBlock := by
  obtain ⟨i0, hi, hz0, hz1, hz2⟩ := info_parts info_step
  obtain ⟨v', w', hr, h2, h3, h4⟩ := run_append_wide_at (P := Try.prog) w B 26 ty 36 i0 _ 4 32 Try.underlying26 hi hz0 hz1 hz2 rfl (by decide) u l.length (clsT l) hown
    ⟨gs, 0, none⟩ 1 1 (clT y) rfl (World.news_of_block (cs := #[.int .i64 y.1, .int .i64 y.2.1, .int .i64 y.2.2.1, .int .i64 y.2.2.2]) (t := 36) (fr := (0, 0)) hg) (by simp [clT, Value.oneCell']) (by simp only [maxLen]; omega) (fits32 hn) hB
  obtain ⟨A', c', rfl⟩ := own_slice h2
  exact ⟨A', c', w', hr, by rw [clsT_append, show clsT [y] = clT y by simp [clsT]]; exact h2, h3⟩

/-- append of a whole list of steps onto an own slice. -/
theorem run_append_sts (w : World) (B : Nat) (u : Value) (l Z : List St) (A : Option Addr) (c : Nat) (hown : w.ownsRow B 36 4 u l.length (clsT l)) (hr : Rd w A (clsT Z)) (hn : l.length + Z.length ≤ 16777216) (hB : B ≤ w.heap.size) (ty : TypeId) :
    ∃ A' c' w', (Builtin.append_ #[26, 26] ty #[u, .slice A Z.length c]).run Try.prog w = .ok (.slice A' (l.length + Z.length) c') w' ∧
      w'.ownsRow B 36 4 (.slice A' (l.length + Z.length) c') (l.length + Z.length) (clsT (l ++ Z)) ∧ w.grownBy w' u.ownBlock := by
  obtain ⟨i0, hi, hz0, hz1, hz2⟩ := info_parts info_step
  by_cases h0 : Z = []
  · subst h0
    obtain ⟨A1, c1, rfl⟩ := own_slice hown
    have hlc : l.length ≤ c1 := by
      rcases hown.2 with ⟨_, e⟩ | ⟨gb, cap, cur, hv, _, _, hc, _⟩
      · omega
      · injection hv with _ _ hv3; omega
    refine ⟨A1, c1, w, ?_, by simpa using hown, World.grownBy.refl _ _⟩
    cases A with
    | none =>
      cases A1 with
      | none => simp [Builtin.append_, run_underlying Try.underlying26, sizeOf, typeInfo, hi, Builtin.lenOf, Builtin.firstCells, hlc]
      | some a1 => simp [Builtin.append_, run_underlying Try.underlying26, sizeOf, typeInfo, hi, Builtin.lenOf, Builtin.firstCells, hlc, storeCells]
    | some ad =>
      cases A1 with
      | none => simp [Builtin.append_, run_underlying Try.underlying26, sizeOf, typeInfo, hi, Builtin.lenOf, Builtin.firstCells, loadCells, loadCellsFrom, hlc]
      | some a1 => simp [Builtin.append_, run_underlying Try.underlying26, sizeOf, typeInfo, hi, Builtin.lenOf, Builtin.firstCells, loadCells, loadCellsFrom, hlc, storeCells]
  · rcases hr with h | ⟨b, o, rfl, hb, hc⟩
    · have := length_clsT Z
      rw [h] at this
      exact absurd (List.eq_nil_of_length_eq_zero (by simp at this; omega)) h0
    · obtain ⟨v', w', hr, h2, h3, _⟩ := run_append_own_wide (P := Try.prog) w B 26 ty 36 i0 _ 4 32 Try.underlying26 hi hz0 hz1 hz2 rfl (by decide) u l.length (clsT l) hown
        ⟨b, o, none⟩ Z.length c (clsT Z) (by rw [length_clsT]) (fun j u hu => by rw [add_lit]; exact hc j u hu) (clsT_oneCell Z) (by simp only [maxLen]; omega) (fits32 hn) hB
      obtain ⟨A', c', rfl⟩ := own_slice h2
      exact ⟨A', c', w', hr, by rw [clsT_append]; exact h2, h3⟩

theorem own_nilT (w : World) (B : Nat) : w.ownsRow B 36 4 (.slice none 0 0) 0 (clsT []) := ⟨rfl, .inl ⟨rfl, rfl⟩⟩

theorem own_nilN (w : World) (B : Nat) : w.ownsRow B 3 1 (.slice none 0 0) 0 (clsN []) := ⟨rfl, .inl ⟨rfl, rfl⟩⟩

set_option maxHeartbeats 1000000 in
set_option maxRecDepth 100000 in
theorem then_any (w : World) (A1 A2 : Option Addr) (n1 c1 n2 c2 : Nat) (a b : List St) (hl1 : n1 = a.length) (hl2 : n2 = b.length) (hr1 : Rd w A1 (clsT a)) (hr2 : Rd w A2 (clsT b)) (hn : a.length + b.length ≤ 16777216) :
    Calls Try.prog 32 #[.slice A1 n1 c1, .slice A2 n2 c2] w (NewSts w (a ++ b)) := by
  subst hl1
  subst hl2
  obtain ⟨A3, c3, w1, h1, ho1, hg1⟩ := run_append_sts w w.heap.size (.slice none 0 0) [] a A1 c1 (own_nilT _ _) hr1 (by simp; omega) (Nat.le_refl _) 26
  have hb1 := (Below.refl w.heap.size w).grown hg1 (Nat.le_refl _) (by simp [Value.ownBlock])
  simp only [List.length_nil, Nat.zero_add, List.nil_append] at h1 ho1
  obtain ⟨A4, c4, w2, h2, ho2, hg2⟩ := run_append_sts w1 w.heap.size _ a b A2 c2 ho1 (hr2.below hb1 (Nat.le_refl _)) hn hb1.size 26
  have HO2 := Lib.hid ho2
  have HB2 := Lib.hid (hb1.grown hg2 hb1.size (fun k hk => (ho1.lt k hk).1))
  clear ho1 hg1 hb1 ho2 hg2 hr1 hr2
  go_enter Try.func32, Try.ntmps32
  go_wp2_with (first
    | (at_builtin; refine wpList_append_run (by rfl) (.const (.slice none 0 0)) (.tmp 5) 26 (by rfl) (.slice none 0 0) (.slice A1 a.length c1) _ _ (by rfl) (by rfl) h1 ?_)
    | (at_builtin; refine wpList_append_run (by rfl) (.tmp 6) (.tmp 7) 26 (by rfl) (.slice A3 a.length c3) (.slice A2 b.length c2) _ _ (by rfl) (by rfl) h2 ?_))
  go_ret
  rw [← List.length_append] at HO2 ⊢
  exact ⟨A4, c4, rfl, HO2.out, HB2.out⟩

def stPush (v : Int) : St := (1, 0, v, 0)

theorem take_map_succ (x : List Int) (k : Nat) (h : k < x.length) : (x.take (k + 1)).map stPush = (x.take k).map stPush ++ [stPush (g x k)] := by
  rw [take_succ_g x k h]
  simp

set_option maxHeartbeats 1000000 in
set_option maxRecDepth 100000 in
theorem pushes_any (w : World) (A : Option Addr) (n c : Nat) (x : List Int) (hl : n = x.length) (hr : Rd w A (clsN x)) (hn : x.length ≤ 8388608) :
    Calls Try.prog 31 #[.slice A n c] w (NewSts w (x.map stPush)) := by
  subst hl
  go_enter Try.func31, Try.ntmps31
  go_wp2
  go_loopw [3, 8] (fun s3 s8 wr => ∃ (k : Nat) (A3 : Option Addr) (c3 : Nat), s8 = .int .i64 (k : Int) ∧ k ≤ x.length ∧ s3 = .slice A3 k c3 ∧ Aside (wr.ownsRow w.heap.size 36 4 (.slice A3 k c3) k (clsT ((x.take k).map stPush))) ∧ Below w.heap.size w wr)
    (fun _ s8 _ => x.length - (intOf s8).toNat)
  case atStart => exact ⟨0, none, 0, rfl, by omega, rfl, own_nilT _ _, Below.refl _ _⟩
  case round =>
    obtain ⟨k, A3, c3, rfl, hk, rfl, hown, hb⟩ := hrel
    have hsz := hb.size
    by_cases hlt : k < x.length
    · obtain ⟨b, o, hA, hbb, h1⟩ := (hr.below hb (Nat.le_refl _)).atN k hlt
      subst hA
      obtain ⟨y, hy⟩ : ∃ y, g x k = y := ⟨_, rfl⟩
      rw [hy] at h1
      obtain ⟨L, hL⟩ : ∃ L, L = (x.take k).map stPush := ⟨_, rfl⟩
      have hLl : L.length = k := by rw [hL]; simp; omega
      have ho := hown.out
      rw [← hL] at ho
      have hb2 := hb.alloc hsz (.cells #[.int .i64 1, .int .i64 0, .int .i64 y, .int .i64 0] 36)
      have ho2 : (wr.alloc (.cells #[.int .i64 1, .int .i64 0, .int .i64 y, .int .i64 0] 36)).ownsRow w.heap.size 36 4 (.slice A3 k c3) L.length (clsT L) := by
        rw [hLl]
        exact own_frm (X := fun _ => False) ho (Frm.of_new ((Below.refl wr.heap.size wr).alloc (Nat.le_refl _) _)) (fun _ _ h => h)
      obtain ⟨A4, c4, w4, hrun, ho4, hg4⟩ := run_append_st ho2 (stPush y) wr.heap.size (heap_alloc_new wr _) (by rw [hLl]; omega) (by simp; omega) 26
      rw [hLl] at ho4 hrun
      have HRUN := Lib.hid hrun
      have HO4 := Lib.hid (show w4.ownsRow w.heap.size 36 4 (.slice A4 (k + 1) c4) (k + 1) (clsT ((x.take (k + 1)).map stPush)) by rw [take_map_succ x k hlt, hy, ← hL]; exact ho4)
      have HB4 := Lib.hid (hb2.grown hg4 hb2.size (fun j hj => (ho2.lt j hj).1))
      clear hy hL hLl ho hb2 ho2 hrun ho4 hg4 hown hb hr
      go_wp2_with (at_builtin; refine wpList_append_run (by rfl) (.tmp 12) (.tmp 15) 26 (by rfl) (.slice A3 k c3) (.slice (some ⟨wr.heap.size, 0, none⟩) 1 1) _ _ (by rfl) (by rfl) HRUN.out ?_)
      go_roundw
      case rel => exact ⟨k + 1, A4, c4, by go_num, by omega, rfl, HO4.out, HB4.out⟩
      case measure => simp [intOf]; omega
    · go_wp2
      go_ret
      have hkl : k = x.length := by omega
      have ho := hown.out
      rw [hkl, List.take_length] at ho
      exact ⟨A3, c3, by rw [hkl]; simp, by simpa using ho, hb⟩

def lnOf : Value → Nat | .slice _ n _ => n | _ => 0

def stPop : St := (2, 0, 0, 0)

set_option maxHeartbeats 1000000 in
set_option maxRecDepth 100000 in
theorem pops_any (w : World) (n : Nat) (hn : n ≤ 8388608) :
    Calls Try.prog 33 #[.int .i64 (n : Int)] w (NewSts w (List.replicate n stPop)) := by
  go_enter Try.func33, Try.ntmps33
  go_wp2
  go_loopw [3] (fun s3 wr => ∃ (k : Nat) (A3 : Option Addr) (c3 : Nat), k ≤ n ∧ s3 = .slice A3 k c3 ∧ Aside (wr.ownsRow w.heap.size 36 4 (.slice A3 k c3) k (clsT (List.replicate k stPop))) ∧ Below w.heap.size w wr)
    (fun s3 _ => n - (lnOf s3))
  case atStart => exact ⟨0, none, 0, by omega, rfl, own_nilT _ _, Below.refl _ _⟩
  case round =>
    obtain ⟨k, A3, c3, hk, rfl, hown, hb⟩ := hrel
    have hsz := hb.size
    by_cases hlt : k < n
    · obtain ⟨L, hL⟩ : ∃ L, L = List.replicate k stPop := ⟨_, rfl⟩
      have hLl : L.length = k := by rw [hL]; simp
      have ho := hown.out
      rw [← hL] at ho
      have hb2 := hb.alloc hsz (.cells #[.int .i64 2, .int .i64 0, .int .i64 0, .int .i64 0] 36)
      have ho2 : (wr.alloc (.cells #[.int .i64 2, .int .i64 0, .int .i64 0, .int .i64 0] 36)).ownsRow w.heap.size 36 4 (.slice A3 k c3) L.length (clsT L) := by
        rw [hLl]
        exact own_frm (X := fun _ => False) ho (Frm.of_new ((Below.refl wr.heap.size wr).alloc (Nat.le_refl _) _)) (fun _ _ h => h)
      obtain ⟨A4, c4, w4, hrun, ho4, hg4⟩ := run_append_st ho2 stPop wr.heap.size (heap_alloc_new wr _) (by rw [hLl]; omega) (by simp; omega) 26
      rw [hLl] at ho4 hrun
      have HRUN := Lib.hid hrun
      have HO4 := Lib.hid (show w4.ownsRow w.heap.size 36 4 (.slice A4 (k + 1) c4) (k + 1) (clsT (List.replicate (k + 1) stPop)) by rw [List.replicate_succ', ← hL]; exact ho4)
      have HB4 := Lib.hid (hb2.grown hg4 hb2.size (fun j hj => (ho2.lt j hj).1))
      clear hL hLl ho hb2 ho2 hrun ho4 hg4 hown hb
      go_wp2_with (at_builtin; refine wpList_append_run (by rfl) (.tmp 8) (.tmp 10) 26 (by rfl) (.slice A3 k c3) (.slice (some ⟨wr.heap.size, 0, none⟩) 1 1) _ _ (by rfl) (by rfl) HRUN.out ?_)
      go_roundw
      case rel => exact ⟨k + 1, A4, c4, by omega, rfl, HO4.out, HB4.out⟩
      case measure => simp [lnOf]; omega
    · go_wp2
      go_ret
      have hkl : k = n := by omega
      subst hkl
      exact ⟨A3, c3, by simp, by simpa using hown.out, hb⟩

end Go.Proofs.Ytpjdpcpcfcohiaa
