/-
  impl.HeapQueue and impl.HeapQueueRest as the laws use them: what they return, by the plain list alone, as letters; the laws' functions made and countInt. Conditions: memory holds the steps; they are within the reach of slices.
-/
import Derived.Test.YtpjdpcpcfcohiaaDeskA
import Derived.Test.YtpjdpcpcfcohiaaThenQ
namespace Go.Proofs.Ytpjdpcpcfcohiaa
open Go.RowKit Go.Shelf
open Hp (g swp Ev St ix nums QV ltQ qOut qRest pushed)

/-- What a function that makes a new list of items leaves; the list is a letter. -/
def ItsP (w : World) (P : List It) (e : Ending) (w' : World) : Prop :=
  ∃ L A c, L = P ∧ e = .returned (.slice A L.length c) ∧ w'.ownsRow w.heap.size 34 2 (.slice A L.length c) L.length (cls L) ∧ Below w.heap.size w w'
theorem queue_law (w : World) (A : Option Addr) (n c : Nat) (ss : List St) (hl : n = ss.length) (hr : Rd w A (clsT ss)) (hn : ss.length + 1 ≤ 13194139537408) :
    Calls Try.prog 17 #[.slice A n c] w (ItsP w (qOut ss)) := by
  refine (queue_walk w A n c ss hl hr hn).mono ?_
  rintro e w' ⟨A1, c1, rfl, h1, h2⟩
  exact ⟨_, A1, c1, Hp.heap_out ss, rfl, h1, h2⟩
theorem rest_law (w : World) (A : Option Addr) (n c : Nat) (ss : List St) (hl : n = ss.length) (hr : Rd w A (clsT ss)) (hn : ss.length + 1 ≤ 13194139537408) :
    Calls Try.prog 24 #[.slice A n c] w (ItsP w (qRest ss)) := by
  refine (rest_walk w A n c ss hl hr hn).mono ?_
  rintro e w' ⟨A1, c1, rfl, h1, h2⟩
  exact ⟨_, A1, c1, Hp.heap_rest ss, rfl, h1, h2⟩
theorem q_lens (ss : List St) : (qOut ss).length ≤ ss.length ∧ (qRest ss).length ≤ ss.length ∧ (qOut ss).length + (qRest ss).length ≤ ss.length := by
  have h1 := Hp.qLen ss
  have h2 := Hp.pushed_le ss
  omega

set_option maxHeartbeats 1000000 in
set_option maxRecDepth 100000 in
theorem made_any (w : World) (A : Option Addr) (n c : Nat) (ss : List St) (hl : n = ss.length) (hr : Rd w A (clsT ss)) (hn : ss.length ≤ 13194139537408) :
    Calls Try.prog 34 #[.slice A n c] w (Gives w (.int .i64 (pushed ss : Nat))) := by
  subst hl
  go_enter Try.func34, Try.ntmps34
  go_wp2
  go_loopw [3, 8] (fun s3 s8 wr => ∃ (k p : Nat), s8 = .int .i64 (k : Int) ∧ k ≤ ss.length ∧ s3 = .int .i64 (p : Int) ∧ p ≤ k ∧ Hid (p = pushed (ss.take k)) ∧ Below w.heap.size w wr) (fun _ s8 _ => ss.length - (intOf s8).toNat)
  case atStart => exact ⟨0, 0, rfl, by omega, rfl, by omega, rfl, Below.refl _ _⟩
  case round =>
    obtain ⟨k, p, rfl, hk, rfl, hp, HP, hb⟩ := hrel
    have hsz := hb.size
    by_cases hlt : k < ss.length
    · obtain ⟨b, o, hA, hbb, h1, h2, h3, h4⟩ := (hr.below hb (Nat.le_refl _)).atT k hlt
      subst hA
      obtain ⟨⟨q, a, kk, t⟩, hx⟩ : ∃ s, g ss k = s := ⟨_, rfl⟩
      rw [hx] at h1 h2 h3 h4
      have hstep : pushed (ss.take (k + 1)) = p + (if q = 1 then 1 else 0) := by
        rw [take_succ_g ss k hlt, Hp.pushed_append, ← HP.out, hx]
        congr 1
        by_cases e : q = 1 <;> simp [pushed, e]
      have HST := Lib.hid hstep
      have HB := Lib.hid (hb.alloc hsz (.cells #[.int .i64 q, .int .i64 a, .int .i64 kk, .int .i64 t] 57))
      clear hx hstep hb HP hr
      by_cases hq : q = 1
      · subst hq
        go_wp2
        go_roundw
        case rel => exact ⟨k + 1, p + 1, by go_num, by omega, by go_num, by omega, by rw [HST.out, if_pos rfl]; rfl, HB.out⟩
        case measure => simp [intOf]; omega
      · have hq1 : (q == 1) = false := by simpa using hq
        have HQ := Lib.hid hq
        clear hq
        go_wp2
        go_roundw
        case rel => exact ⟨k + 1, p, by go_num, by omega, rfl, by omega, by rw [HST.out, if_neg HQ.out]; rfl, HB.out⟩
        case measure => simp [intOf]; omega
    · go_wp2
      go_ret
      have hkl : k = ss.length := by omega
      have hp2 := HP.out
      rw [hkl, List.take_length] at hp2
      exact ⟨by rw [hp2]; rfl, hb⟩

set_option maxHeartbeats 1000000 in
set_option maxRecDepth 100000 in
theorem countInt_any (w : World) (A : Option Addr) (n c : Nat) (l : List Int) (v : Int) (hl : n = l.length) (hr : Rd w A (clsN l)) (hn : l.length ≤ 26388279066624) :
    Calls Try.prog 35 #[.slice A n c, .int .i64 v] w (Gives w (.int .i64 (l.count v : Nat))) := by
  subst hl
  go_enter Try.func35, Try.ntmps35
  go_wp2
  go_loopw [5, 10] (fun s5 s10 wr => ∃ (k p : Nat), s10 = .int .i64 (k : Int) ∧ k ≤ l.length ∧ s5 = .int .i64 (p : Int) ∧ p ≤ k ∧ Hid (p = (l.take k).count v) ∧ wr = w) (fun _ s10 _ => l.length - (intOf s10).toNat)
  case atStart => exact ⟨0, 0, rfl, by omega, rfl, by omega, rfl, rfl⟩
  case round =>
    obtain ⟨k, p, rfl, hk, rfl, hp, HP, rfl⟩ := hrel
    by_cases hlt : k < l.length
    · obtain ⟨b, o, hA, hbb, h1⟩ := hr.atN k hlt
      subst hA
      obtain ⟨y, hy⟩ : ∃ y, g l k = y := ⟨_, rfl⟩
      rw [hy] at h1
      have hstep : (l.take (k + 1)).count v = p + (if y = v then 1 else 0) := by
        rw [take_succ_g l k hlt, List.count_append, ← HP.out, hy]
        congr 1
        by_cases e : y = v <;> simp [e]
      have HST := Lib.hid hstep
      clear hy hstep HP hr
      by_cases hq : y = v
      · subst hq
        go_wp2
        go_roundw
        case rel => exact ⟨k + 1, p + 1, by go_num, by omega, by go_num, by omega, by rw [HST.out, if_pos rfl]; rfl, trivial⟩
        case measure => simp [intOf]; omega
      · have hq1 : (y == v) = false := by simpa using hq
        have HQ := Lib.hid hq
        clear hq
        go_wp2
        go_roundw
        case rel => exact ⟨k + 1, p, by go_num, by omega, rfl, by omega, by rw [HST.out, if_neg HQ.out]; rfl, trivial⟩
        case measure => simp [intOf]; omega
    · go_wp2
      go_ret
      have hkl : k = l.length := by omega
      have hp2 := HP.out
      rw [hkl, List.take_length] at hp2
      exact ⟨by rw [hp2]; rfl, Below.refl _ _⟩
theorem own_below {w w' : World} {B : Nat} {e : TypeId} {size n : Nat} {v : Value} {xs : List Value} (h : w.ownsRow B e size v n xs) (hb : Below w.heap.size w w') : w'.ownsRow B e size v n xs := own_frm (X := fun _ => False) h (Frm.of_new hb) (fun _ _ e => e)
end Go.Proofs.Ytpjdpcpcfcohiaa
