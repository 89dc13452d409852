/-
  Lists of steps: how memory holds them; toStepS makes a copy of one. Condition: memory holds the list that it is handed, within the reach of a slice.
-/
import Derived.Test.YtadacjndepkfeaaFrame
import Derived.Test.YtadacjndepkfeaaPlainS
namespace Go.Proofs.Ytadacjndepkfeaa
open Go.RowKit Go.Shelf
open Hp (g swp Ev St plc)

def clT (s : St) : List Value := [.int .i64 s.1, .int .i64 s.2.1, .int .i64 s.2.2.1, .int .i64 s.2.2.2]
def clsT (l : List St) : List Value := l.flatMap clT

theorem clsT_cons (s : St) (l : List St) : clsT (s :: l) = .int .i64 s.1 :: .int .i64 s.2.1 :: .int .i64 s.2.2.1 :: .int .i64 s.2.2.2 :: clsT l := by simp [clsT, clT]
theorem length_clsT (l : List St) : (clsT l).length = l.length * 4 := by
  induction l with
  | nil => rfl
  | cons x l ih => rw [clsT_cons]; simp only [List.length_cons, ih]; omega
theorem clsT_append (l r : List St) : clsT (l ++ r) = clsT l ++ clsT r := by simp [clsT]
theorem clsT_at (l : List St) (i : Nat) (h : i < l.length) : (clsT l)[i * 4]? = some (.int .i64 (g l i).1) ∧ (clsT l)[i * 4 + 1]? = some (.int .i64 (g l i).2.1) ∧ (clsT l)[i * 4 + 2]? = some (.int .i64 (g l i).2.2.1) ∧ (clsT l)[i * 4 + 3]? = some (.int .i64 (g l i).2.2.2) := by
  induction l generalizing i with
  | nil => simp at h
  | cons x l ih =>
    rw [clsT_cons]
    cases i with
    | zero => simp [g]
    | succ i =>
      have := ih i (by simpa using h)
      rw [show (i + 1) * 4 = i * 4 + 4 by omega]
      simpa [g] using this
theorem clsT_set (l : List St) (i : Nat) (x : St) (h : i < l.length) : clsT (l.set i x) = ((((clsT l).set (i * 4) (.int .i64 x.1)).set (i * 4 + 1) (.int .i64 x.2.1)).set (i * 4 + 2) (.int .i64 x.2.2.1)).set (i * 4 + 3) (.int .i64 x.2.2.2) := by
  induction l generalizing i with
  | nil => simp at h
  | cons y l ih =>
    cases i with
    | zero => rw [List.set_cons_zero, clsT_cons, clsT_cons]; simp
    | succ i =>
      rw [List.set_cons_succ, clsT_cons, clsT_cons, ih i (by simpa using h), show (i + 1) * 4 = i * 4 + 4 by omega]
      simp
theorem clsT_oneCell (l : List St) : ∀ u ∈ clsT l, u.oneCell' = true := by
  intro u hu
  simp only [clsT, List.mem_flatMap, clT] at hu
  obtain ⟨x, _, hx⟩ := hu
  simp at hx
  rcases hx with rfl | rfl | rfl | rfl <;> rfl
theorem Rd.atT {w : World} {A : Option Addr} {l : List St} (h : Rd w A (clsT l)) (k : Nat) (hk : k < l.length) :
    ∃ b o : Nat, A = some ⟨b, o, none⟩ ∧ b < w.heap.size ∧ w.cell? ⟨b, o + k * 4, none⟩ = some (.int .i64 (g l k).1) ∧ w.cell? ⟨b, o + k * 4 + 1, none⟩ = some (.int .i64 (g l k).2.1) ∧ w.cell? ⟨b, o + k * 4 + 2, none⟩ = some (.int .i64 (g l k).2.2.1) ∧ w.cell? ⟨b, o + k * 4 + 3, none⟩ = some (.int .i64 (g l k).2.2.2) := by
  rcases h with h | ⟨b, o, h1, h2, h3⟩
  · have := length_clsT l
    rw [h] at this
    simp at this
    omega
  · obtain ⟨k0, k1, k2, k3⟩ := clsT_at l k hk
    exact ⟨b, o, h1, h2, h3 _ _ k0, by rw [Nat.add_assoc]; exact h3 _ _ k1, by rw [Nat.add_assoc]; exact h3 _ _ k2, by rw [Nat.add_assoc]; exact h3 _ _ k3⟩

/-- What a function that makes a new list of steps leaves. -/
def NewSts (w : World) (l : List St) (e : Ending) (w' : World) : Prop :=
  ∃ A c, e = .returned (.slice A l.length c) ∧ w'.ownsRow w.heap.size 45 4 (.slice A l.length c) l.length (clsT l) ∧ Below w.heap.size w w'

set_option maxHeartbeats 1000000 in
set_option maxRecDepth 100000 in
theorem toStep_any (w : World) (s : St) :
    Calls Try.prog 37 #[.agg #[.int .i64 s.1, .int .i64 s.2.1, .int .i64 s.2.2.1, .int .i64 s.2.2.2]] w (Gives w (.agg #[.int .i64 s.1, .int .i64 s.2.1, .int .i64 s.2.2.1, .int .i64 s.2.2.2])) := by
  obtain ⟨q, a, k, t⟩ := s
  go_enter Try.func37, Try.ntmps37
  go_wp2
  refine bodyPost_ret (v := .agg #[.int .i64 q, .int .i64 a, .int .i64 k, .int .i64 t]) (by simp [results, Try.results37, go_sem]) rfl ⟨rfl, ?_⟩
  repeat (first | exact Below.refl _ _ | refine Below.setCell ?_ (by simp) _ | refine Below.alloc ?_ (by simp <;> omega) _)

theorem info_step : (Try.prog.info? 45).map (fun i => (i.zero, i.size, i.bytes)) = some (some (.agg #[.int .i64 0, .int .i64 0, .int .i64 0, .int .i64 0]), 4, 32) := by kernel_rfl
theorem made_steps (n : Nat) : (madeCells #[.int .i64 0, .int .i64 0, .int .i64 0, .int .i64 0] (n * 4)).toList = clsT (List.replicate n ((0 : Int), (0 : Int), (0 : Int), (0 : Int))) := by
  apply List.ext_getElem?
  intro j
  by_cases hj : j < n * 4
  · have h1 : (clsT (List.replicate n ((0 : Int), (0 : Int), (0 : Int), (0 : Int))))[j]? = some (.int .i64 0) := by
      have h := clsT_at (List.replicate n ((0 : Int), (0 : Int), (0 : Int), (0 : Int))) (j / 4) (by simp; omega)
      have hg : g (List.replicate n ((0 : Int), (0 : Int), (0 : Int), (0 : Int))) (j / 4) = (0, 0, 0, 0) := by rw [← Hp.g_eq (by simp; omega)]; simp
      rw [hg] at h
      have hc : j = j / 4 * 4 ∨ j = j / 4 * 4 + 1 ∨ j = j / 4 * 4 + 2 ∨ j = j / 4 * 4 + 3 := by omega
      rcases hc with e | e | e | e
      · rw [e]; exact h.1
      · rw [e]; exact h.2.1
      · rw [e]; exact h.2.2.1
      · rw [e]; exact h.2.2.2
    rw [h1]
    have h4 : j % 4 = 0 ∨ j % 4 = 1 ∨ j % 4 = 2 ∨ j % 4 = 3 := by omega
    have hz : (#[.int .i64 0, .int .i64 0, .int .i64 0, .int .i64 0] : Array Value)[j % 4]! = .int .i64 0 := by
      rcases h4 with e | e | e | e <;> rw [e] <;> rfl
    simp only [madeCells, Array.getElem?_toList, Array.getElem?_map]
    rw [Array.getElem?_eq_getElem (by simpa using hj)]
    simp only [Array.getElem_range, Option.map_some]
    exact congrArg some hz
  · have h0 := length_clsT (List.replicate n ((0 : Int), (0 : Int), (0 : Int), (0 : Int)))
    rw [List.length_replicate] at h0
    rw [List.getElem?_eq_none (by rw [Array.length_toList, size_madeCells]; omega), List.getElem?_eq_none (by omega)]

theorem own_storeT {w : World} {B : Nat} {gb n cap : Nat} {l : List St} (h : w.ownsRow B 45 4 (.slice (some ⟨gb, 0, none⟩) n cap) n (clsT l)) (i : Nat) (hi : i < l.length) (x : St) :
    ((((w.setCell ⟨gb, i * 4, none⟩ (.int .i64 x.1)).setCell ⟨gb, i * 4 + 1, none⟩ (.int .i64 x.2.1)).setCell ⟨gb, i * 4 + 2, none⟩ (.int .i64 x.2.2.1)).setCell ⟨gb, i * 4 + 3, none⟩ (.int .i64 x.2.2.2)).ownsRow B 45 4 (.slice (some ⟨gb, 0, none⟩) n cap) n (clsT (l.set i x)) := by
  have := ((((h.stored (i * 4) (.int .i64 x.1)).1.stored (i * 4 + 1) (.int .i64 x.2.1)).1.stored (i * 4 + 2) (.int .i64 x.2.2.1)).1.stored (i * 4 + 3) (.int .i64 x.2.2.2)).1
  rwa [← clsT_set l i x hi] at this

/-- The first k steps copied, the others zero. -/
def half (l : List St) (k : Nat) : List St := l.take k ++ List.replicate (l.length - k) (0, 0, 0, 0)
theorem length_half (l : List St) (k : Nat) (h : k ≤ l.length) : (half l k).length = l.length := by simp [half]; omega
theorem half_succ (l : List St) (k : Nat) (h : k < l.length) : (half l k).set k (g l k) = half l (k + 1) := by
  unfold half
  rw [take_succ_g l k h]
  apply Hp.ext_g
  · simp; omega
  · intro i hi
    simp at hi
    rw [Hp.g_set _ _ (by simp; omega)]
    by_cases h1 : i < k
    · rw [if_neg (by omega), Hp.g_append_left (by simp; omega), List.append_assoc, Hp.g_append_left (by simp; omega)]
    · by_cases h2 : i = k
      · subst h2
        rw [if_pos rfl]
        have e : (l.take i).length = i := by simp; omega
        rw [Hp.g_append_left (by simp; omega)]
        conv => rhs; arg 2; rw [← e]
        rw [Hp.g_append_last]
      · rw [if_neg h2]
        simp only [g]
        congr 1
        rw [List.getElem?_append_right (by simp; omega), List.getElem?_append_right (by simp; omega), List.getElem?_replicate, List.getElem?_replicate]
        simp only [List.length_append, List.length_take, List.length_cons, List.length_nil]
        rw [if_pos (by omega), if_pos (by omega)]

set_option maxHeartbeats 1000000 in
set_option maxRecDepth 100000 in
theorem toStepS_any (w : World) (A : Option Addr) (n c : Nat) (l : List St) (hl : n = l.length) (hr : Rd w A (clsT l)) (hn : l.length * 32 ≤ 140737488355328) :
    Calls Try.prog 17 #[.slice A n c] w (NewSts w l) := by
  subst hl
  obtain ⟨i0, hi, hz0, hz1, hz2⟩ := info_parts info_step
  go_enter Try.func17, Try.ntmps17
  go_wp2_with (with_reducible refine wpList_make_full _ rfl _ _ 29 rfl w.heap.size 45 i0 _ 4 Try.underlying29 hi hz0 hz1 .i64 .i64 _ _ l.length rfl rfl rfl rfl ?c1 ?c2 ?c3 ?_)
  case c1 => rw [hz2]; omega
  case c2 => simp only [maxLen]; omega
  case c3 => exact Nat.le_refl _
  intro w1 ho1 hg1
  rw [made_steps] at ho1
  have HB1 := Lib.hid ((Below.refl w.heap.size w).grown hg1 (Nat.le_refl _) (by simp))
  have ho2 : w1.ownsRow w.heap.size 45 4 (.slice (some ⟨w.heap.size, 0, none⟩) l.length l.length) l.length (clsT (half l 0)) := by simpa [half] using ho1
  have HO1 := Lib.hid ho2
  clear ho1 ho2 hg1
  go_wp2_with fail
  go_loopw [4] (fun s4 wr => ∃ (k : Nat), s4 = .int .i64 (k : Int) ∧ k ≤ l.length ∧ Aside (wr.ownsRow w.heap.size 45 4 (.slice (some ⟨w.heap.size, 0, none⟩) l.length l.length) l.length (clsT (half l k))) ∧ Below w.heap.size w wr)
    (fun s4 _ => l.length - (intOf s4).toNat)
  case atStart => exact ⟨0, rfl, by omega, HO1.out, HB1.out⟩
  case round =>
    obtain ⟨k, rfl, hk, hown, hb⟩ := hrel
    have hsz := hb.size
    by_cases hlt : k < l.length
    · obtain ⟨b, o, rfl, hbb, h1, h2, h3, h4⟩ := (hr.below hb (Nat.le_refl _)).atT k hlt
      obtain ⟨⟨q, a, kk, t⟩, hx⟩ : ∃ x, g l k = x := ⟨_, rfl⟩
      rw [hx] at h1 h2 h3 h4
      have HX := Lib.hid hx
      clear hr hx
      go_wp2_with fail
      refine (toStep_any _ (q, a, kk, t)).mono ?_
      rintro e w2 ⟨rfl, hb2⟩
      have hsb := (hown.out.lt w.heap.size rfl).2
      have ho2 := own_frm (X := fun _ => False) hown.out (Frm.of_new hb2) (fun _ _ h => h)
      have hlen := length_half l k hk
      have f := fun j => ho2.frozenAt j
      obtain ⟨k0, k1, k2, k3⟩ := clsT_at (half l k) k (by omega)
      have c0 := (ho2.cellAt (k * 4) (by omega)).trans k0
      have c1 := (ho2.cellAt (k * 4 + 1) (by omega)).trans k1
      have c2 := (ho2.cellAt (k * 4 + 2) (by omega)).trans k2
      have c3 := (ho2.cellAt (k * 4 + 3) (by omega)).trans k3
      have hs2 : w.heap.size < w2.heap.size := Nat.lt_of_lt_of_le hsb hb2.size
      have HO2 := Lib.hid ho2
      have HLEN := Lib.hid hlen
      have HB2 := Lib.hid (hb.trans (hb2.mono hb.size))
      clear k0 k1 k2 k3 ho2 hown hb hb2 h1 h2 h3 h4 hlen
      go_wp2
      go_roundw
      case rel =>
        refine ⟨k + 1, by go_num, by omega, ?_, ?_⟩
        · rw [← half_succ l k hlt, HX.out]
          exact own_storeT HO2.out k (by rw [HLEN.out]; exact hlt) (q, a, kk, t)
        · repeat (first | exact HB2.out | refine Below.setCell ?_ (by simp) _)
      case measure => simp [intOf]; omega
    · go_wp2
      go_ret
      have hkl : k = l.length := by omega
      have ho := hown.out
      rw [hkl, show half l l.length = l by simp [half]] at ho
      exact ⟨_, _, rfl, ho, hb⟩
end Go.Proofs.Ytadacjndepkfeaa
