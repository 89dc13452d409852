/-
  heap.Pop, for every implementation whose methods keep a list: what it makes of the list, and what it returns. Condition: the methods' contracts (HI, HPop).
-/
import Derived.Test.YtadacjndepkfeaaHeap
namespace Go.Proofs.Ytadacjndepkfeaa
open Go.RowKit Go.Shelf
open Hp (g swp Ev)
section
variable {T : TypeId} {rv : Value} {α : Type} [Inhabited α] {lt : α → α → Bool} {M : Nat} {R : List α → List Ev → World → Prop} {enc : α → Value} {ev : α → Int × Int}

set_option maxHeartbeats 1000000 in
set_option maxRecDepth 100000 in
theorem pop_any (H : HI T rv lt M R) (HP : HPop T rv enc ev M R) (l : List α) (tr : List Ev) (w : World) (hR : R l tr w) (hl : 0 < l.length) (hM : tr.length + (Hp.popCalls lt l).length < M) :
    Calls Try.prog 39 #[.iface T rv] w fun e w' => e = .returned (enc (g l 0)) ∧
      R (Hp.popD lt l).dropLast (tr ++ Hp.popCalls lt l ++ [((4 : Int), (l.length : Int), (ev (g l 0)).1, (ev (g l 0)).2)]) w' := by
  have hs0 := H.small _ _ _ hR
  obtain ⟨f0, v0, hm0, he0, hc0⟩ := H.len l tr w hR
  have hg := Hp.g_popD lt l hl
  have hlen : (Hp.popD lt l).length = l.length := (Hp.perm_popD lt l hl).length_eq
  have pops : ∀ (tr1 : List Ev) (w1 : World), R (Hp.popD lt l) tr1 w1 → tr1.length < M → ∃ f v, (method 191 T rv "Pop").run Try.prog w1 = .ok (f, v) w1 ∧ (∀ args w, (callFunc f args).run Try.prog w = .ok (.enter f args) w) ∧
      Calls Try.prog f #[v] w1 fun e w' => e = .returned (enc (g l 0)) ∧ R (Hp.popD lt l).dropLast (tr1 ++ [((4 : Int), (l.length : Int), (ev (g l 0)).1, (ev (g l 0)).2)]) w' := by
    intro tr1 w1 h1 hm1
    have h2 := HP.pop _ _ _ h1 (by rw [hlen]; omega) hm1
    rw [hlen, hg] at h2
    exact h2
  have POPS := Lib.hid pops
  have HM := Lib.hid hM
  clear hg hlen pops hM
  have en : (((l.length - 1 : Nat)) : Int) = (l.length : Int) - 1 := by omega
  have EN := Lib.hid en
  clear en hR
  go_enter Try.func39, Try.ntmps39
  go_wp2_with (first
    | (go_at_fn f0; refine hc0.mono ?_; rintro e w0 ⟨rfl, hR0⟩; obtain ⟨f1, v1, hm1, he1, hc1⟩ := H.swap l tr w0 0 (l.length - 1) hR0 hl (by omega) (by have := HM.out; omega); rw [EN.out] at hc1; clear hm0 he0 hc0)
    | (go_at_fn f1; refine hc1.mono ?_; rintro e w1 ⟨rfl, hR1⟩; have hc2 := down_any H _ _ 0 (l.length - 1) w1 hR1 (by simp) (by simp) (by have h9 := HM.out; unfold Hp.popCalls at h9; simp at h9 ⊢; omega); rw [EN.out] at hc2; clear hm1 he1 hc1)
    | (go_at_call 47; refine hc2.mono ?_; rintro e w2 ⟨rfl, hR2⟩; obtain ⟨f3, v3, hm3, he3, hc3⟩ := POPS.out _ w2 hR2 (by have h9 := HM.out; unfold Hp.popCalls at h9; simp at h9 ⊢; omega); clear hc2)
    | (go_at_fn f3; refine hc3.mono ?_; rintro e w3 ⟨rfl, hR3⟩))
  go_ret
  refine ⟨rfl, ?_⟩
  unfold Hp.popCalls
  simpa using hR3
end
end Go.Proofs.Ytadacjndepkfeaa
