/-
  What container/heap's functions do, for every implementation of heap.Interface whose methods keep a list: contracts over the translated program. Condition: the methods' contracts (the structure HI).
-/
import Derived.Test.YtadacjndepkfeaaProg
import Derived.Test.YtadacjndepkfeaaPlain
import Derived.WalkKit
import Derived.Deep.LoopGhost
import Derived.Deep.RegionWith
import Derived.Shelf.Lay
import Derived.Lib.Hide
namespace Go.Proofs.Ytadacjndepkfeaa
open Go.RowKit Go.Shelf
open Hp (g swp Ev)

/-- What is asked of an implementation: its state is the list l, what it has noted of calls is tr; it notes at most M calls. -/
structure HI (T : TypeId) (rv : Value) {α : Type} [Inhabited α] (lt : α → α → Bool) (M : Nat) (R : List α → List Ev → World → Prop) : Prop where
  small : ∀ l tr w, R l tr w → l.length < 4611686018427387904
  len : ∀ l tr w, R l tr w → ∃ f v, (method 191 T rv "Len").run Try.prog w = .ok (f, v) w ∧ (∀ args w, (callFunc f args).run Try.prog w = .ok (.enter f args) w) ∧
    Calls Try.prog f #[v] w fun e w' => e = .returned (.int .i64 (l.length : Int)) ∧ R l tr w'
  less : ∀ l tr w i j, R l tr w → i < l.length → j < l.length → tr.length < M → ∃ f v, (method 191 T rv "Less").run Try.prog w = .ok (f, v) w ∧ (∀ args w, (callFunc f args).run Try.prog w = .ok (.enter f args) w) ∧
    Calls Try.prog f #[v, .int .i64 (i : Int), .int .i64 (j : Int)] w fun e w' => e = .returned (.bool (lt (g l i) (g l j))) ∧ R l (tr ++ [((1 : Int), (l.length : Int), (i : Int), (j : Int))]) w'
  swap : ∀ l tr w i j, R l tr w → i < l.length → j < l.length → tr.length < M → ∃ f v, (method 191 T rv "Swap").run Try.prog w = .ok (f, v) w ∧ (∀ args w, (callFunc f args).run Try.prog w = .ok (.enter f args) w) ∧
    Calls Try.prog f #[v, .int .i64 (i : Int), .int .i64 (j : Int)] w fun e w' => e = .returned (.tuple #[]) ∧ R (swp l i j) (tr ++ [((2 : Int), (l.length : Int), (i : Int), (j : Int))]) w'

/-- What is asked of its method Pop: it takes the last element away and returns it. -/
structure HPop (T : TypeId) (rv : Value) {α : Type} [Inhabited α] (enc : α → Value) (ev : α → Int × Int) (M : Nat) (R : List α → List Ev → World → Prop) : Prop where
  pop : ∀ l tr w, R l tr w → 0 < l.length → tr.length < M → ∃ f v, (method 191 T rv "Pop").run Try.prog w = .ok (f, v) w ∧ (∀ args w, (callFunc f args).run Try.prog w = .ok (.enter f args) w) ∧
    Calls Try.prog f #[v] w fun e w' => e = .returned (enc (g l (l.length - 1))) ∧ R l.dropLast (tr ++ [((4 : Int), (l.length : Int), (ev (g l (l.length - 1))).1, (ev (g l (l.length - 1))).2)]) w'

section
variable {T : TypeId} {rv : Value} {α : Type} [Inhabited α] {lt : α → α → Bool} {M : Nat} {R : List α → List Ev → World → Prop}

set_option maxHeartbeats 1000000 in
set_option maxRecDepth 100000 in
theorem up_any (H : HI T rv lt M R) (l : List α) (tr : List Ev) (j : Nat) (w : World) (hR : R l tr w) (hj : j < l.length) (hM : tr.length + (Hp.upCalls lt l j).length ≤ M) :
    Calls Try.prog 48 #[.iface T rv, .int .i64 (j : Int)] w fun e w' => e = .returned (.tuple #[]) ∧ R (Hp.up lt l j) (tr ++ Hp.upCalls lt l j) w' := by
  go_enter Try.func48, Try.ntmps48
  go_wp2
  go_loopg [1] (j + 1) (fun k s1 wr => ∃ (j' : Nat) (l' : List α) (tr' : List Ev), s1 = .int .i64 (j' : Int) ∧ j' < k ∧ j' < l'.length ∧ Aside (R l' tr' wr) ∧
    Hid (Hp.upF lt k l' j' = Hp.up lt l j) ∧ Hid (tr' ++ Hp.upE lt k l' j' = tr ++ Hp.upCalls lt l j))
  case atStart => exact ⟨j, l, tr, rfl, by omega, hj, hR, rfl, rfl⟩
  case round =>
    obtain ⟨j', l', tr', rfl, hk, hj', hR', hE, hC⟩ := hrel
    clear hR
    obtain ⟨k, rfl⟩ : ∃ k, gk = k + 1 := ⟨gk - 1, by omega⟩
    have hs := H.small _ _ _ hR'.out
    by_cases h0 : j' = 0
    · subst h0
      go_wp2
      go_end0
      have e1 := hE.out
      have e2 := hC.out
      simp only [Hp.upF, Hp.upE, if_pos] at e1 e2
      rw [← e1, ← e2, List.append_nil]
      exact ⟨rfl, hR'.out⟩
    · have hp : (((j' - 1) / 2 : Nat) : Int) = ((j' : Int) - 1) / 2 := by omega
      have hlen := congrArg List.length hC.out
      rw [Hp.upE, if_neg h0, List.length_append, List.length_append, List.length_cons] at hlen
      obtain ⟨f1, v1, hm1, he1, hc1⟩ := H.less l' tr' wr j' ((j' - 1) / 2) hR'.out hj' (by omega) (by omega)
      have HLEN := Lib.hid hlen
      clear hlen
      rw [hp] at hc1
      have hne : ((((j' : Int) - 1) / 2) == (j' : Int)) = false := by simp; omega
      have HP := Lib.hid hp
      clear hp
      cases hlv : lt (g l' j') (g l' ((j' - 1) / 2)) with
      | false =>
        rw [hlv] at hc1
        have HL := Lib.hid hlv
        clear hlv
        go_wp2_with (go_at_fn f1; refine hc1.mono ?_; rintro e w1 ⟨rfl, hR1⟩)
        go_end0
        have e1 := hE.out
        have e2 := hC.out
        have hl := HL.out
        rw [Hp.upF, if_neg h0, hl, if_neg (by simp)] at e1
        rw [Hp.upE, if_neg h0, hl, if_neg (by simp), HP.out] at e2
        rw [← e1, ← e2]
        exact ⟨rfl, hR1⟩
      | true =>
        rw [hlv] at hc1
        have HL := Lib.hid hlv
        clear hlv
        go_wp2_with (first
          | (go_at_fn f1; refine hc1.mono ?_; rintro e w1 ⟨rfl, hR1⟩; obtain ⟨f2, v2, hm2, he2, hc2⟩ := H.swap l' _ w1 ((j' - 1) / 2) j' hR1 (by omega) hj' (by have h9 := HLEN.out; rw [if_pos HL.out] at h9; simp at h9 ⊢; omega); rw [HP.out] at hc2; clear hm1 he1 hc1)
          | (go_at_fn f2; refine hc2.mono ?_; rintro e w2 ⟨rfl, hR2⟩))
        go_roundg k
        case measure => omega
        case rel =>
          have e1 := hE.out
          have e2 := hC.out
          have hl := HL.out
          rw [Hp.upF, if_neg h0, if_pos hl] at e1
          rw [Hp.upE, if_neg h0, if_pos hl, HP.out] at e2
          refine ⟨(j' - 1) / 2, Hp.swp l' ((j' - 1) / 2) j', _, by rw [HP.out], by omega, by simp; omega, hR2, e1, ?_⟩
          rw [← e2]
          show Hid _
          unfold Hid
          simp

set_option maxHeartbeats 2000000 in
set_option maxRecDepth 100000 in
theorem down_any (H : HI T rv lt M R) (l : List α) (tr : List Ev) (i0 n : Nat) (w : World) (hR : R l tr w) (hi0 : i0 ≤ l.length) (hn : n ≤ l.length) (hM : tr.length + (Hp.downCalls lt l i0 n).length ≤ M) :
    Calls Try.prog 47 #[.iface T rv, .int .i64 (i0 : Int), .int .i64 (n : Int)] w fun e w' =>
      e = .returned (.bool (decide (i0 < (Hp.down lt l i0 n).2))) ∧ R (Hp.down lt l i0 n).1 (tr ++ Hp.downCalls lt l i0 n) w' := by
  have hs0 := H.small _ _ _ hR
  go_enter Try.func47, Try.ntmps47
  go_wp2
  go_loopg [7] (n + 1) (fun k s7 wr => ∃ (i : Nat) (l' : List α) (tr' : List Ev), s7 = .int .i64 (i : Int) ∧ 0 < k ∧ n + 1 ≤ i + k ∧ i ≤ l.length ∧ n ≤ l'.length ∧ Aside (R l' tr' wr) ∧
    Hid (l'.length = l.length) ∧ Hid (Hp.downF lt n (k - 1) l' i = Hp.down lt l i0 n) ∧ Hid (tr' ++ Hp.downE lt n (k - 1) l' i = tr ++ Hp.downCalls lt l i0 n))
  case atStart => exact ⟨i0, l, tr, rfl, by omega, by omega, hi0, hn, hR, rfl, rfl, rfl⟩
  case round =>
    obtain ⟨i, l', tr', rfl, hk0, hk, hil, hn', hR', hL, hE, hC⟩ := hrel
    clear hR
    obtain ⟨k, rfl⟩ : ∃ k, gk = k + 1 := ⟨gk - 1, by omega⟩
    rw [Nat.add_sub_cancel] at hE hC
    have fin : Hp.downF lt n k l' i = (l', i) → ∀ w1 tr1, R l' tr1 w1 → tr1 = tr' ++ Hp.downE lt n k l' i →
        Ending.returned (.bool (decide (i0 < i))) = .returned (.bool (decide (i0 < (Hp.down lt l i0 n).2))) ∧ R (Hp.down lt l i0 n).1 (tr ++ Hp.downCalls lt l i0 n) w1 := by
      intro hd w1 tr1 h1 h2
      have e1 := hE.out
      rw [hd] at e1
      rw [← e1, ← hC.out, ← h2]
      exact ⟨rfl, h1⟩
    have FIN := Lib.hid fin
    clear fin
    by_cases hc : 2 * i + 1 < n
    · obtain ⟨m, rfl⟩ : ∃ m, k = m + 1 := ⟨k - 1, by omega⟩
      have hlen := congrArg List.length hC.out
      rw [Hp.downE, if_pos hc, List.length_append, List.length_append, List.length_append, List.length_cons] at hlen
      have HLEN := Lib.hid hlen
      have hl1 : tr'.length < M := by omega
      clear hlen
      have h1l : 2 * i + 1 < l'.length := by omega
      have hLe : l'.length ≤ l.length := by rw [hL.out]; omega
      by_cases hc2 : 2 * i + 2 < n
      · obtain ⟨f0, v0, hm0, he0, hc0⟩ := H.less l' tr' wr (2 * i + 2) (2 * i + 1) hR'.out (by omega) h1l hl1
        rw [show ((2 * i + 2 : Nat) : Int) = 2 * (i : Int) + 1 + 1 by omega, show ((2 * i + 1 : Nat) : Int) = 2 * (i : Int) + 1 by omega] at hc0
        cases hv0 : lt (g l' (2 * i + 2)) (g l' (2 * i + 1)) with
        | false =>
          rw [hv0] at hc0
          have hcd : Hp.child lt l' i n = 2 * i + 1 := by rw [Hp.child, if_pos hc2, hv0]; simp
          have HCD := Lib.hid hcd
          clear hcd hv0
          cases hlv : lt (g l' (2 * i + 1)) (g l' i) with
          | false =>
            have HLV := Lib.hid hlv
            clear hlv
            go_wp2_with (first
              | (go_at_fn f0; refine hc0.mono ?_; rintro e w0 ⟨rfl, hR0⟩; obtain ⟨f1, v1, hm1, he1, hc1⟩ := H.less l' _ w0 (2 * i + 1) i hR0 (by omega) (by omega) (by have h9 := HLEN.out; rw [if_pos hc2] at h9; simp at h9 ⊢; omega); rw [HLV.out, show ((2 * i + 1 : Nat) : Int) = 2 * (i : Int) + 1 by omega] at hc1; clear hm0 he0 hc0)
              | (go_at_fn f1; refine hc1.mono ?_; rintro e w1 ⟨rfl, hR1⟩))
            go_ret
            refine FIN.out (by rw [Hp.downF, if_pos hc, HCD.out, HLV.out]; rfl) _ _ hR1 ?_
            rw [Hp.downE, if_pos hc, if_pos hc2, HCD.out, HLV.out]
            simp
            try omega
          | true =>
            have HLV := Lib.hid hlv
            clear hlv
            go_wp2_with (first
              | (go_at_fn f0; refine hc0.mono ?_; rintro e w0 ⟨rfl, hR0⟩; obtain ⟨f1, v1, hm1, he1, hc1⟩ := H.less l' _ w0 (2 * i + 1) i hR0 (by omega) (by omega) (by have h9 := HLEN.out; rw [if_pos hc2] at h9; simp at h9 ⊢; omega); rw [HLV.out, show ((2 * i + 1 : Nat) : Int) = 2 * (i : Int) + 1 by omega] at hc1; clear hm0 he0 hc0)
              | (go_at_fn f1; refine hc1.mono ?_; rintro e w1 ⟨rfl, hR1⟩; obtain ⟨f2, v2, hm2, he2, hc2'⟩ := H.swap l' _ w1 i (2 * i + 1) hR1 (by omega) (by omega) (by have h9 := HLEN.out; rw [if_pos hc2, HCD.out, if_pos HLV.out] at h9; simp at h9 ⊢; omega); rw [show ((2 * i + 1 : Nat) : Int) = 2 * (i : Int) + 1 by omega] at hc2'; clear hm1 he1 hc1)
              | (go_at_fn f2; refine hc2'.mono ?_; rintro e w2 ⟨rfl, hR2⟩))
            go_roundg (m + 1)
            case measure => omega
            case rel =>
              have e1 := hE.out
              have e2 := hC.out
              rw [Hp.downF, if_pos hc, HCD.out, if_pos HLV.out] at e1
              rw [Hp.downE, if_pos hc, if_pos hc2, HCD.out, if_pos HLV.out] at e2
              refine ⟨2 * i + 1, Hp.swp l' i (2 * i + 1), _, by congr 1 <;> omega, by omega, by omega, by omega, by simpa using hn', hR2, by rw [Hp.length_swp]; exact hL, e1, ?_⟩
              rw [← e2]
              show Hid _
              unfold Hid
              simp
              try omega
        | true =>
          rw [hv0] at hc0
          have hcd : Hp.child lt l' i n = 2 * i + 2 := by rw [Hp.child, if_pos hc2, hv0]; simp
          have HCD := Lib.hid hcd
          clear hcd hv0
          cases hlv : lt (g l' (2 * i + 2)) (g l' i) with
          | false =>
            have HLV := Lib.hid hlv
            clear hlv
            go_wp2_with (first
              | (go_at_fn f0; refine hc0.mono ?_; rintro e w0 ⟨rfl, hR0⟩; obtain ⟨f1, v1, hm1, he1, hc1⟩ := H.less l' _ w0 (2 * i + 2) i hR0 (by omega) (by omega) (by have h9 := HLEN.out; rw [if_pos hc2] at h9; simp at h9 ⊢; omega); rw [HLV.out, show ((2 * i + 2 : Nat) : Int) = 2 * (i : Int) + 1 + 1 by omega] at hc1; clear hm0 he0 hc0)
              | (go_at_fn f1; refine hc1.mono ?_; rintro e w1 ⟨rfl, hR1⟩))
            go_ret
            refine FIN.out (by rw [Hp.downF, if_pos hc, HCD.out, HLV.out]; rfl) _ _ hR1 ?_
            rw [Hp.downE, if_pos hc, if_pos hc2, HCD.out, HLV.out]
            simp
            try omega
          | true =>
            have HLV := Lib.hid hlv
            clear hlv
            go_wp2_with (first
              | (go_at_fn f0; refine hc0.mono ?_; rintro e w0 ⟨rfl, hR0⟩; obtain ⟨f1, v1, hm1, he1, hc1⟩ := H.less l' _ w0 (2 * i + 2) i hR0 (by omega) (by omega) (by have h9 := HLEN.out; rw [if_pos hc2] at h9; simp at h9 ⊢; omega); rw [HLV.out, show ((2 * i + 2 : Nat) : Int) = 2 * (i : Int) + 1 + 1 by omega] at hc1; clear hm0 he0 hc0)
              | (go_at_fn f1; refine hc1.mono ?_; rintro e w1 ⟨rfl, hR1⟩; obtain ⟨f2, v2, hm2, he2, hc2'⟩ := H.swap l' _ w1 i (2 * i + 2) hR1 (by omega) (by omega) (by have h9 := HLEN.out; rw [if_pos hc2, HCD.out, if_pos HLV.out] at h9; simp at h9 ⊢; omega); rw [show ((2 * i + 2 : Nat) : Int) = 2 * (i : Int) + 1 + 1 by omega] at hc2'; clear hm1 he1 hc1)
              | (go_at_fn f2; refine hc2'.mono ?_; rintro e w2 ⟨rfl, hR2⟩))
            go_roundg (m + 1)
            case measure => omega
            case rel =>
              have e1 := hE.out
              have e2 := hC.out
              rw [Hp.downF, if_pos hc, HCD.out, if_pos HLV.out] at e1
              rw [Hp.downE, if_pos hc, if_pos hc2, HCD.out, if_pos HLV.out] at e2
              refine ⟨2 * i + 2, Hp.swp l' i (2 * i + 2), _, by congr 1 <;> omega, by omega, by omega, by omega, by simpa using hn', hR2, by rw [Hp.length_swp]; exact hL, e1, ?_⟩
              rw [← e2]
              show Hid _
              unfold Hid
              simp
              try omega
      · obtain ⟨f1, v1, hm1, he1, hc1⟩ := H.less l' tr' wr (2 * i + 1) i hR'.out h1l (by omega) hl1
        rw [show ((2 * i + 1 : Nat) : Int) = 2 * (i : Int) + 1 by omega] at hc1
        have hcd : Hp.child lt l' i n = 2 * i + 1 := by rw [Hp.child, if_neg hc2]
        have HCD := Lib.hid hcd
        clear hcd
        cases hlv : lt (g l' (2 * i + 1)) (g l' i) with
        | false =>
          rw [hlv] at hc1
          have HLV := Lib.hid hlv
          clear hlv
          go_wp2_with (go_at_fn f1; refine hc1.mono ?_; rintro e w1 ⟨rfl, hR1⟩)
          go_ret
          refine FIN.out (by rw [Hp.downF, if_pos hc, HCD.out, HLV.out]; rfl) _ _ hR1 ?_
          rw [Hp.downE, if_pos hc, if_neg hc2, HCD.out, HLV.out]
          simp
        | true =>
          rw [hlv] at hc1
          have HLV := Lib.hid hlv
          clear hlv
          go_wp2_with (first
            | (go_at_fn f1; refine hc1.mono ?_; rintro e w1 ⟨rfl, hR1⟩; obtain ⟨f2, v2, hm2, he2, hc2'⟩ := H.swap l' _ w1 i (2 * i + 1) hR1 (by omega) (by omega) (by have h9 := HLEN.out; rw [if_neg hc2, HCD.out, if_pos HLV.out] at h9; simp at h9 ⊢; omega); rw [show ((2 * i + 1 : Nat) : Int) = 2 * (i : Int) + 1 by omega] at hc2'; clear hm1 he1 hc1)
            | (go_at_fn f2; refine hc2'.mono ?_; rintro e w2 ⟨rfl, hR2⟩))
          go_roundg (m + 1)
          case measure => omega
          case rel =>
            have e1 := hE.out
            have e2 := hC.out
            rw [Hp.downF, if_pos hc, HCD.out, if_pos HLV.out] at e1
            rw [Hp.downE, if_pos hc, if_neg hc2, HCD.out, if_pos HLV.out] at e2
            refine ⟨2 * i + 1, Hp.swp l' i (2 * i + 1), _, by congr 1 <;> omega, by omega, by omega, by omega, by simpa using hn', hR2, by rw [Hp.length_swp]; exact hL, e1, ?_⟩
            rw [← e2]
            show Hid _
            unfold Hid
            simp
    · go_wp2
      go_ret
      refine FIN.out ?_ _ _ hR'.out ?_
      · cases k with
        | zero => rfl
        | succ m => rw [Hp.downF, if_neg hc]
      · cases k with
        | zero => simp [Hp.downE]
        | succ m => rw [Hp.downE, if_neg hc, List.append_nil]
end
end Go.Proofs.Ytadacjndepkfeaa
