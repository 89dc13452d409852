/-
  The helper function qKeysLess of the laws: what it returns; the rank of a key keeps the order of the keys. Condition: memory holds the list of keys, within the reach of a slice.
-/
import Derived.Test.YtadacjndepkfeaaKeys
import Derived.Test.YtadacjndepkfeaaMapped
namespace Go.Proofs.Ytadacjndepkfeaa
open Go.RowKit Go.Shelf
open Hp (g swp Ev St plc)

/-- How many of some keys are less than a key. -/
def rank (K : List Int) (x : Int) : Nat := K.countP (fun y => decide (y < x))
theorem rank_le (K : List Int) (x : Int) : rank K x ≤ K.length := List.countP_le_length
theorem rank_snoc (K : List Int) (y x : Int) : rank (K ++ [y]) x = rank K x + if y < x then 1 else 0 := by
  unfold rank
  rw [List.countP_append]
  congr 1
  by_cases h : y < x <;> simp [h]
theorem rank_mono (K : List Int) {a b : Int} (h : a ≤ b) : rank K a ≤ rank K b :=
  List.countP_mono_left (fun x _ hx => by simp at hx ⊢; omega)
theorem rank_lt (K : List Int) {a b : Int} (ha : a ∈ K) (h : a < b) : rank K a < rank K b := by
  unfold rank
  induction K with
  | nil => simp at ha
  | cons y K ih =>
    rw [List.countP_cons, List.countP_cons]
    have hm : K.countP (fun y => decide (y < a)) ≤ K.countP (fun y => decide (y < b)) := List.countP_mono_left (fun x _ hx => by simp at hx ⊢; omega)
    rcases List.mem_cons.1 ha with e | e
    · subst e
      simp [h]
      omega
    · have := ih e
      by_cases h1 : y < a
      · have h2 : y < b := by omega
        simp [h1, h2]; omega
      · by_cases h2 : y < b <;> simp [h1, h2] <;> omega
theorem rank_order (K : List Int) {a b : Int} (ha : a ∈ K) : ((rank K a : Int) < (rank K b : Int)) ↔ a < b := by
  constructor
  · intro h
    by_cases h1 : a < b
    · exact h1
    · have := rank_mono K (show b ≤ a by omega)
      omega
  · intro h
    have := rank_lt K ha h
    omega

set_option maxHeartbeats 1000000 in
set_option maxRecDepth 100000 in
theorem qKeysLess_any (w : World) (A : Option Addr) (n c : Nat) (K : List Int) (x : Int) (hl : n = K.length) (hr : Rd w A (clsN K)) (hn : K.length ≤ 26388279066624) :
    Calls Try.prog 30 #[.slice A n c, .int .i64 x] w fun e w' => e = .returned (.int .i64 (rank K x : Nat)) ∧ w = w' := by
  subst hl
  go_enter Try.func30, Try.ntmps30
  go_wp2
  go_loopw [5, 10] (fun s5 s10 wr => ∃ (k m : Nat), s10 = .int .i64 (k : Int) ∧ k ≤ K.length ∧ s5 = .int .i64 (m : Int) ∧ m ≤ k ∧ wr = w ∧ Hid (m = rank (K.take k) x)) (fun _ s10 _ => K.length - (intOf s10).toNat)
  case atStart => exact ⟨0, 0, rfl, by omega, rfl, by omega, rfl, by simp [Hid, rank]⟩
  case round =>
    obtain ⟨k, m, rfl, hk, rfl, hmk, rfl, HM⟩ := hrel
    by_cases hlt : k < K.length
    · obtain ⟨b, o, rfl, hbb, h1⟩ := hr.atN k hlt
      have htk := take_succ_g K k hlt
      obtain ⟨y, hy⟩ : ∃ y, g K k = y := ⟨_, rfl⟩
      rw [hy] at h1 htk
      have HTK := Lib.hid htk
      clear hy htk hr
      by_cases hxy : y < x
      · have HM1 := Lib.hid (show m + 1 = rank (K.take (k + 1)) x by rw [HTK.out, rank_snoc, ← HM.out, if_pos hxy])
        go_wp2
        go_roundw
        case rel => exact ⟨k + 1, m + 1, by go_num, by omega, by go_num, by omega, trivial, HM1⟩
        case measure => simp [intOf]; omega
      · have HM1 := Lib.hid (show m = rank (K.take (k + 1)) x by rw [HTK.out, rank_snoc, ← HM.out, if_neg hxy]; rfl)
        have hxy' : x ≤ y := by omega
        go_wp2
        go_roundw
        case rel => exact ⟨k + 1, m, by go_num, by omega, rfl, by omega, trivial, HM1⟩
        case measure => simp [intOf]; omega
    · have hkl : k = K.length := by omega
      have HE := Lib.hid (show m = rank K x by have := HM.out; rwa [hkl, List.take_of_length_le (Nat.le_refl _)] at this)
      clear hkl
      go_wp2
      go_ret
      exact ⟨by rw [← HE.out]; rfl, rfl⟩
end Go.Proofs.Ytadacjndepkfeaa
