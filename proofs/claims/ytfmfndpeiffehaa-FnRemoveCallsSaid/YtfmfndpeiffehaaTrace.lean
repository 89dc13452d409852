/-
  The helper functions of the laws that count calls: what they return. Condition: memory holds what they are handed, within the reach of a slice.
-/
import Derived.Test.YtfmfndpeiffehaaWatched
import Derived.Test.YtfmfndpeiffehaaPlainT
namespace Go.Proofs.Ytfmfndpeiffehaa
open Go.RowKit Go.Shelf
open Hp (g swp Ev)

/-- What a function that makes a new list of calls leaves. -/
def NewCas (w : World) (tr : List Ev) (e : Ending) (w' : World) : Prop :=
  ∃ A c, e = .returned (.slice A tr.length c) ∧ w'.ownsRow w.heap.size 51 4 (.slice A tr.length c) tr.length (ces tr) ∧ Below w.heap.size w w'

theorem g_ces (tr : List Ev) (i : Nat) (h : i < tr.length) : (ces tr)[i * 4]? = some (.int .i64 (g tr i).1) ∧ (ces tr)[i * 4 + 1]? = some (.int .i64 (g tr i).2.1) ∧ (ces tr)[i * 4 + 2]? = some (.int .i64 (g tr i).2.2.1) ∧ (ces tr)[i * 4 + 3]? = some (.int .i64 (g tr i).2.2.2) := by
  induction tr generalizing i with
  | nil => simp at h
  | cons x l ih =>
    have e : ces (x :: l) = .int .i64 x.1 :: .int .i64 x.2.1 :: .int .i64 x.2.2.1 :: .int .i64 x.2.2.2 :: ces l := by simp [ces, ce]
    cases i with
    | zero => simp [e, g]
    | succ i =>
      have := ih i (by simpa using h)
      rw [e, show (i + 1) * 4 = i * 4 + 1 + 1 + 1 + 1 by omega]
      simpa [g] using this

theorem Rd.atC {w : World} {A : Option Addr} {tr : List Ev} (h : Rd w A (ces tr)) (k : Nat) (hk : k < tr.length) :
    ∃ b o : Nat, A = some ⟨b, o, none⟩ ∧ b < w.heap.size ∧ w.cell? ⟨b, o + k * 4, none⟩ = some (.int .i64 (g tr k).1) ∧ w.cell? ⟨b, o + k * 4 + 1, none⟩ = some (.int .i64 (g tr k).2.1) ∧
      w.cell? ⟨b, o + k * 4 + 2, none⟩ = some (.int .i64 (g tr k).2.2.1) ∧ w.cell? ⟨b, o + k * 4 + 3, none⟩ = some (.int .i64 (g tr k).2.2.2) := by
  rcases h with h | ⟨b, o, h1, h2, h3⟩
  · have := length_ces tr
    rw [h] at this
    simp at this
    omega
  · obtain ⟨e0, e1, e2, e3⟩ := g_ces tr k hk
    exact ⟨b, o, h1, h2, h3 _ _ e0, by rw [Nat.add_assoc]; exact h3 _ _ e1, by rw [Nat.add_assoc]; exact h3 _ _ e2, by rw [Nat.add_assoc]; exact h3 _ _ e3⟩

set_option maxHeartbeats 1000000 in
set_option maxRecDepth 100000 in
theorem asked_any (w : World) (A : Option Addr) (n c : Nat) (tr : List Ev) (hl : n = tr.length) (hr : Rd w A (ces tr)) (hn : tr.length * 32 ≤ 140737488355328) :
    Calls Try.prog 12 #[.slice A n c] w (Gives w (.int .i64 (Hp.kinds 1 tr : Nat))) := by
  subst hl
  go_enter Try.func12, Try.ntmps12
  go_wp2
  go_loopw [3, 8] (fun s3 s8 wr => ∃ (k : Nat), s8 = .int .i64 (k : Int) ∧ k ≤ tr.length ∧ s3 = .int .i64 ((Hp.kinds 1 (tr.take k) : Nat) : Int) ∧ Below w.heap.size w wr) (fun _ s8 _ => tr.length - (intOf s8).toNat)
  case atStart => exact ⟨0, rfl, by omega, rfl, Below.refl _ _⟩
  case round =>
    obtain ⟨k, rfl, hk, rfl, hb⟩ := hrel
    have hsz := hb.size
    have hcl : Hp.kinds 1 (tr.take k) ≤ k := Nat.le_trans List.countP_le_length (List.length_take_le _ _)
    by_cases hlt : k < tr.length
    · obtain ⟨b, o, rfl, hbb, h0, h1, h2, h3⟩ := (hr.below hb (Nat.le_refl _)).atC k hlt
      have hks : Hp.kinds 1 (tr.take (k + 1)) = Hp.kinds 1 (tr.take k) + if (g tr k).1 = 1 then 1 else 0 := by
        rw [take_succ_g tr k hlt, Hp.kinds_append, Hp.kinds_cons, Hp.kinds_nil]; omega
      obtain ⟨⟨y0, y1, y2, y3⟩, hy⟩ : ∃ y, g tr k = y := ⟨_, rfl⟩
      rw [hy] at h0 h1 h2 h3 hks
      have HKS := Lib.hid hks
      clear hr hy hks
      by_cases he : y0 = 1
      · subst he
        go_wp2
        go_roundw
        case rel => exact ⟨k + 1, by go_num, by omega, by rw [HKS.out]; simp, hb.alloc hsz _⟩
        case measure => simp [intOf]; omega
      · have hq : (y0 == 1) = false := by simpa using he
        have HE := Lib.hid he
        clear he
        go_wp2
        go_roundw
        case rel => exact ⟨k + 1, by go_num, by omega, by rw [HKS.out, if_neg HE.out]; simp, hb.alloc hsz _⟩
        case measure => simp [intOf]; omega
    · go_wp2
      go_ret
      refine ⟨?_, hb⟩
      rw [List.take_of_length_le (by omega)]
      rfl

set_option maxHeartbeats 1000000 in
set_option maxRecDepth 100000 in
theorem bits_any (w : World) (n : Nat) (hn : n < 4611686018427387904) :
    Calls Try.prog 15 #[.int .i64 (n : Int)] w fun e w' => e = .returned (.int .i64 (Hp.bitsN n : Nat)) ∧ w = w' := by
  have hb62 := Hp.bits_le 62 n (by omega)
  go_enter Try.func15, Try.ntmps15
  go_wp2
  go_loop [0, 3] (fun s0 s3 => ∃ (m k : Nat), s0 = .int .i64 (m : Int) ∧ s3 = .int .i64 (k : Int) ∧ m ≤ n ∧ k ≤ 62 ∧ Hid (k + Hp.bitsN m = Hp.bitsN n)) (fun s0 _ => (intOf s0).toNat)
  case atStart => exact ⟨n, 0, rfl, rfl, Nat.le_refl _, by omega, by simp [Hid]⟩
  case round =>
    obtain ⟨m, k, rfl, rfl, hm, hk, HK⟩ := hrel
    by_cases h0 : 0 < m
    · have hh := Hp.bits_half h0
      have hk2 : k + 1 ≤ 62 := by have := HK.out; omega
      have HN : Hid (k + 1 + Hp.bitsN (m / 2) = Hp.bitsN n) := by unfold Hid; have := HK.out; omega
      clear hh
      go_wp2
      go_round
      case rel => exact ⟨m / 2, k + 1, by go_num, by go_num, by omega, hk2, HN⟩
      case measure => simp [intOf]; omega
    · have hm0 : m = 0 := by omega
      subst hm0
      go_wp2
      go_ret
      have := HK.out
      rw [Hp.bits_zero, Nat.add_zero] at this
      exact ⟨by rw [← this]; rfl, rfl⟩
end Go.Proofs.Ytfmfndpeiffehaa
