/-
  heap.Init, for every implementation whose methods keep a list: what it makes of the list. Condition: the methods' contracts (HI).
-/
import Derived.Test.YtadacjndepkfeaaHeap
namespace Go.Proofs.Ytadacjndepkfeaa
open Go.RowKit Go.Shelf
open Hp (g swp Ev)
section
variable {T : TypeId} {rv : Value} {α : Type} [Inhabited α] {lt : α → α → Bool} {M : Nat} {R : List α → List Ev → World → Prop}

set_option maxHeartbeats 1000000 in
set_option maxRecDepth 100000 in
theorem init_any (H : HI T rv lt M R) (l : List α) (tr : List Ev) (w : World) (hR : R l tr w) (hM : tr.length + (Hp.initCalls lt l).length ≤ M) :
    Calls Try.prog 36 #[.iface T rv] w fun e w' => e = .returned (.tuple #[]) ∧ R (Hp.init lt l) (tr ++ Hp.initCalls lt l) w' := by
  have hs0 := H.small _ _ _ hR
  obtain ⟨f0, v0, hm0, he0, hc0⟩ := H.len l tr w hR
  have HM := Lib.hid hM
  clear hR hM
  go_enter Try.func36, Try.ntmps36
  go_wp2_with (go_at_fn f0; refine hc0.mono ?_; rintro e w0 ⟨rfl, hR0⟩; have HR0 := Lib.hid hR0; clear hm0 he0 hc0 hR0)
  go_loopg [3] (l.length / 2) (fun k s3 wr => s3 = .int .i64 ((k : Int) - 1) ∧ k ≤ l.length ∧ ∃ (l' : List α) (tr' : List Ev), Aside (R l' tr' wr) ∧
    Hid (l'.length = l.length) ∧ Hid (Hp.initF lt l.length k l' = Hp.init lt l) ∧ Hid (tr' ++ Hp.initE lt l.length k l' = tr ++ Hp.initCalls lt l))
  case atStart => exact ⟨by congr 1, by omega, l, tr, HR0, rfl, rfl, rfl⟩
  case round =>
    obtain ⟨rfl, hk, l', tr', hR', hL, hE, hC⟩ := hrel
    clear HR0
    cases gk with
    | zero =>
      go_wp2
      go_end0
      have e1 := hE.out
      have e2 := hC.out
      rw [Hp.initF] at e1
      rw [Hp.initE, List.append_nil] at e2
      rw [← e1, ← e2]
      exact ⟨rfl, hR'.out⟩
    | succ k =>
      have hlen := congrArg List.length hC.out
      rw [Hp.initE, List.length_append, List.length_append, List.length_append] at hlen
      have hc1 := down_any H l' tr' k l.length wr hR'.out (by rw [hL.out]; omega) (by rw [hL.out]; exact Nat.le_refl _) (by have := HM.out; omega)
      clear hlen
      go_wp2_with (go_at_call 47; refine hc1.mono ?_; rintro e w1 ⟨rfl, hR1⟩)
      go_roundg k
      case measure => omega
      case rel =>
        refine ⟨by simp, by omega, _, _, hR1, by rw [Hp.length_down]; exact hL, hE, ?_⟩
        have e2 := hC.out
        rw [Hp.initE, ← List.append_assoc] at e2
        exact e2
end
end Go.Proofs.Ytadacjndepkfeaa
