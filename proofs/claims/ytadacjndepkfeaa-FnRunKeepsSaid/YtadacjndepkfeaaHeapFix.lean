/-
  heap.Fix, for every implementation whose methods keep a list: what it makes of the list. Condition: the methods' contracts (HI).
-/
import Derived.Test.YtadacjndepkfeaaHeap
namespace Go.Proofs.Ytadacjndepkfeaa
open Go.RowKit Go.Shelf
open Hp (g swp Ev)
section
variable {T : TypeId} {rv : Value} {α : Type} [Inhabited α] {lt : α → α → Bool} {M : Nat} {R : List α → List Ev → World → Prop}

set_option maxHeartbeats 1000000 in
set_option maxRecDepth 100000 in
theorem fix_any (H : HI T rv lt M R) (l : List α) (tr : List Ev) (i : Nat) (w : World) (hR : R l tr w) (hi : i < l.length) (hM : tr.length + (Hp.fixCalls lt l i).length ≤ M) :
    Calls Try.prog 41 #[.iface T rv, .int .i64 (i : Int)] w fun e w' => e = .returned (.tuple #[]) ∧ R (Hp.fix lt l i) (tr ++ Hp.fixCalls lt l i) w' := by
  have hs0 := H.small _ _ _ hR
  obtain ⟨f0, v0, hm0, he0, hc0⟩ := H.len l tr w hR
  have hfin : R (Hp.fix lt l i) (tr ++ Hp.fixCalls lt l i) = R (Hp.mend lt l i l.length) (tr ++ Hp.mendCalls lt l i l.length) := rfl
  unfold Hp.mend Hp.mendCalls at hfin
  unfold Hp.fixCalls Hp.mendCalls at hM
  by_cases hmv : i < (Hp.down lt l i l.length).2
  · rw [if_pos hmv, if_pos hmv, List.append_nil] at hfin
    rw [if_pos hmv, List.append_nil] at hM
    have HM := Lib.hid hM
    rw [hfin]
    clear hfin hR hM
    go_enter Try.func41, Try.ntmps41
    go_wp2_with (first
      | (go_at_fn f0; refine hc0.mono ?_; rintro e w0 ⟨rfl, hR0⟩; have hc1 := down_any H l tr i l.length w0 hR0 (by omega) (Nat.le_refl _) HM.out; rw [decide_eq_true hmv] at hc1; clear hm0 he0 hc0)
      | (go_at_call 47; refine hc1.mono ?_; rintro e w1 ⟨rfl, hR1⟩))
    go_end0
    exact ⟨rfl, hR1⟩
  · rw [if_neg hmv, if_neg hmv, ← List.append_assoc] at hfin
    rw [if_neg hmv, List.length_append] at hM
    have HM := Lib.hid hM
    rw [hfin]
    clear hfin hR hM
    go_enter Try.func41, Try.ntmps41
    go_wp2_with (first
      | (go_at_fn f0; refine hc0.mono ?_; rintro e w0 ⟨rfl, hR0⟩; have hc1 := down_any H l tr i l.length w0 hR0 (by omega) (Nat.le_refl _) (by have := HM.out; omega); rw [decide_eq_false hmv] at hc1; clear hm0 he0 hc0)
      | (go_at_call 47; refine hc1.mono ?_; rintro e w1 ⟨rfl, hR1⟩; have hc2 := up_any H _ _ i w1 hR1 (by rw [Hp.length_down]; omega) (by have := HM.out; rw [List.length_append]; omega); clear hc1)
      | (go_at_call 48; refine hc2.mono ?_; rintro e w2 ⟨rfl, hR2⟩))
    go_end0
    exact ⟨rfl, hR2⟩
end
end Go.Proofs.Ytadacjndepkfeaa
