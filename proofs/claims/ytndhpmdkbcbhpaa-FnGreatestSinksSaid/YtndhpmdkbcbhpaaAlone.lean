/-
  The helper function qAlone of the laws: what it returns. Condition: memory holds the list that it is handed.
-/
import Derived.Test.YtndhpmdkbcbhpaaReaders
namespace Go.Proofs.Ytndhpmdkbcbhpaa
open Go.RowKit Go.Shelf
open Hp (g swp Ev)

set_option maxHeartbeats 1000000 in
set_option maxRecDepth 100000 in
theorem qAlone_pos (w : World) (A : Option Addr) (n c : Nat) (l : List It) (i : Nat) (key : Int) (b : Bool) (hl : n = l.length) (hr : Rd w A (cls l)) (hn : l.length * 16 ≤ 140737488355328) (hb : b = true ↔ ∀ k, k < l.length → k ≠ i → key < (g l k).1) :
    Calls Try.prog 28 #[.slice A n c, .int .i64 (i : Int), .int .i64 key, .int .i64 1] w (Gives w (.bool b)) := by
  subst hl
  have HB := Lib.hid hb
  clear hb
  go_enter Try.func28, Try.ntmps28
  go_wp2
  go_loopw [13] (fun s13 wr => ∃ (k : Nat), s13 = .int .i64 (k : Int) ∧ k ≤ l.length ∧ Below w.heap.size w wr ∧ Hid (∀ j, j < k → j ≠ i → key < (g l j).1)) (fun s13 _ => l.length - (intOf s13).toNat)
  case atStart => exact ⟨0, rfl, by omega, Below.refl _ _, fun j hj => by omega⟩
  case round =>
    obtain ⟨k, rfl, hk, hbw, hok⟩ := hrel
    have hsz := hbw.size
    by_cases hlt : k < l.length
    · obtain ⟨bb, o, rfl, hbb, h1, h2⟩ := (hr.below hbw (Nat.le_refl _)).at_ k hlt
      obtain ⟨x, hx⟩ : ∃ x, (g l k).1 = x := ⟨_, rfl⟩
      rw [hx] at h1
      have HX := Lib.hid hx
      clear hx hr
      by_cases hki : k = i
      · have hq : ((k : Int) != (i : Int)) = false := by simp [hki]
        have HKI := Lib.hid hki
        clear hki
        go_wp2
        go_roundw
        case rel =>
          refine ⟨k + 1, by go_num, by omega, hbw.alloc hsz _, ?_⟩
          intro j hj hji
          exact hok.out j (by have := HKI.out; omega) hji
        case measure => simp [intOf]; omega
      · have hq : ((k : Int) != (i : Int)) = true := by rw [bne_iff_ne]; omega
        have HKI := Lib.hid hki
        clear hki
        by_cases hxk : x ≤ key
        · have HF : Hid (b = false) := by
            cases hbv : b with
            | false => rfl
            | true =>
              have := HB.out.1 hbv k hlt HKI.out
              rw [HX.out] at this
              omega
          go_wp2
          go_ret
          exact ⟨by rw [HF.out]; rfl, hbw.alloc hsz _⟩
        · have hxd : decide (x ≤ key) = false := decide_eq_false hxk
          have HXK := Lib.hid hxk
          clear hxk
          go_wp2
          go_roundw
          case rel =>
            refine ⟨k + 1, by go_num, by omega, hbw.alloc hsz _, ?_⟩
            intro j hj hji
            by_cases hjk : j = k
            · subst hjk; rw [HX.out]; have := HXK.out; omega
            · exact hok.out j (by omega) hji
          case measure => simp [intOf]; omega
    · go_wp2
      go_ret
      have hbt : b = true := HB.out.2 fun j hj hji => hok.out j (by omega) hji
      exact ⟨by rw [hbt]; rfl, hbw⟩

set_option maxHeartbeats 1000000 in
set_option maxRecDepth 100000 in
theorem qAlone_neg (w : World) (A : Option Addr) (n c : Nat) (l : List It) (i : Nat) (key : Int) (b : Bool) (hl : n = l.length) (hr : Rd w A (cls l)) (hn : l.length * 16 ≤ 140737488355328) (hb : b = true ↔ ∀ k, k < l.length → k ≠ i → (g l k).1 < key) :
    Calls Try.prog 28 #[.slice A n c, .int .i64 (i : Int), .int .i64 key, .int .i64 (-1)] w (Gives w (.bool b)) := by
  subst hl
  have HB := Lib.hid hb
  clear hb
  go_enter Try.func28, Try.ntmps28
  go_wp2
  go_loopw [13] (fun s13 wr => ∃ (k : Nat), s13 = .int .i64 (k : Int) ∧ k ≤ l.length ∧ Below w.heap.size w wr ∧ Hid (∀ j, j < k → j ≠ i → (g l j).1 < key)) (fun s13 _ => l.length - (intOf s13).toNat)
  case atStart => exact ⟨0, rfl, by omega, Below.refl _ _, fun j hj => by omega⟩
  case round =>
    obtain ⟨k, rfl, hk, hbw, hok⟩ := hrel
    have hsz := hbw.size
    by_cases hlt : k < l.length
    · obtain ⟨bb, o, rfl, hbb, h1, h2⟩ := (hr.below hbw (Nat.le_refl _)).at_ k hlt
      obtain ⟨x, hx⟩ : ∃ x, (g l k).1 = x := ⟨_, rfl⟩
      rw [hx] at h1
      have HX := Lib.hid hx
      clear hx hr
      by_cases hki : k = i
      · have hq : ((k : Int) != (i : Int)) = false := by simp [hki]
        have HKI := Lib.hid hki
        clear hki
        go_wp2
        go_roundw
        case rel =>
          refine ⟨k + 1, by go_num, by omega, hbw.alloc hsz _, ?_⟩
          intro j hj hji
          exact hok.out j (by have := HKI.out; omega) hji
        case measure => simp [intOf]; omega
      · have hq : ((k : Int) != (i : Int)) = true := by rw [bne_iff_ne]; omega
        have HKI := Lib.hid hki
        clear hki
        by_cases hxk : key ≤ x
        · have HF : Hid (b = false) := by
            cases hbv : b with
            | false => rfl
            | true =>
              have := HB.out.1 hbv k hlt HKI.out
              rw [HX.out] at this
              omega
          go_wp2
          go_ret
          exact ⟨by rw [HF.out]; rfl, hbw.alloc hsz _⟩
        · have hxd : decide (key ≤ x) = false := decide_eq_false hxk
          have HXK := Lib.hid hxk
          clear hxk
          go_wp2
          go_roundw
          case rel =>
            refine ⟨k + 1, by go_num, by omega, hbw.alloc hsz _, ?_⟩
            intro j hj hji
            by_cases hjk : j = k
            · subst hjk; rw [HX.out]; have := HXK.out; omega
            · exact hok.out j (by omega) hji
          case measure => simp [intOf]; omega
    · go_wp2
      go_ret
      have hbt : b = true := HB.out.2 fun j hj hji => hok.out j (by omega) hji
      exact ⟨by rw [hbt]; rfl, hbw⟩
end Go.Proofs.Ytndhpmdkbcbhpaa
