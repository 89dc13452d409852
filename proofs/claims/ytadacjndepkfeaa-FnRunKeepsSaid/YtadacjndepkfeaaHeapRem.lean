/-
  heap.Remove, for every implementation whose methods keep a list: what it makes of the list, and what it returns. Condition: the methods' contracts (HI, HPop).
-/
import Derived.Test.YtadacjndepkfeaaHeap
namespace Go.Proofs.Ytadacjndepkfeaa
open Go.RowKit Go.Shelf
open Hp (g swp Ev)
section
variable {T : TypeId} {rv : Value} {α : Type} [Inhabited α] {lt : α → α → Bool} {M : Nat} {R : List α → List Ev → World → Prop} {enc : α → Value} {ev : α → Int × Int}

set_option maxHeartbeats 1000000 in
set_option maxRecDepth 100000 in
theorem remove_any (H : HI T rv lt M R) (HP : HPop T rv enc ev M R) (l : List α) (tr : List Ev) (i : Nat) (w : World) (hR : R l tr w) (hi : i < l.length) (hM : tr.length + (Hp.remCalls lt l i).length < M) :
    Calls Try.prog 40 #[.iface T rv, .int .i64 (i : Int)] w fun e w' => e = .returned (enc (g l i)) ∧
      R (Hp.rem lt l i).dropLast (tr ++ Hp.remCalls lt l i ++ [((4 : Int), (l.length : Int), (ev (g l i)).1, (ev (g l i)).2)]) w' := by
  have hs0 := H.small _ _ _ hR
  obtain ⟨f0, v0, hm0, he0, hc0⟩ := H.len l tr w hR
  have hg := Hp.g_rem lt l i hi
  have hlen := Hp.length_rem lt l i
  have pops : ∀ (tr1 : List Ev) (w1 : World), R (Hp.rem lt l i) tr1 w1 → tr1.length < M → ∃ f v, (method 191 T rv "Pop").run Try.prog w1 = .ok (f, v) w1 ∧ (∀ args w, (callFunc f args).run Try.prog w = .ok (.enter f args) w) ∧
      Calls Try.prog f #[v] w1 fun e w' => e = .returned (enc (g l i)) ∧ R (Hp.rem lt l i).dropLast (tr1 ++ [((4 : Int), (l.length : Int), (ev (g l i)).1, (ev (g l i)).2)]) w' := by
    intro tr1 w1 h1 hm1
    have h2 := HP.pop _ _ _ h1 (by rw [hlen]; omega) hm1
    rw [hlen, hg] at h2
    exact h2
  have POPS := Lib.hid pops
  have HM := Lib.hid hM
  clear hg hlen pops hM
  by_cases hne : l.length - 1 = i
  · have hrem : Hp.rem lt l i = l := by unfold Hp.rem; rw [if_pos hne]
    have hrc : Hp.remCalls lt l i = [] := by unfold Hp.remCalls; rw [if_pos hne]
    rw [hrc, List.append_nil]
    have HREM := Lib.hid hrem
    clear hR hrem hrc
    have hb : (((l.length : Int) - 1) != (i : Int)) = false := by simp; omega
    go_enter Try.func40, Try.ntmps40
    go_wp2_with (first
      | (go_at_fn f0; refine hc0.mono ?_; rintro e w0 ⟨rfl, hR0⟩; obtain ⟨f1, v1, hm1, he1, hc1⟩ := POPS.out tr w0 (by rw [HREM.out]; exact hR0) (by have := HM.out; omega); clear hm0 he0 hc0)
      | (go_at_fn f1; refine hc1.mono ?_; rintro e w1 ⟨rfl, hR1⟩))
    go_ret
    exact ⟨rfl, hR1⟩
  · have hb : (((l.length : Int) - 1) != (i : Int)) = true := by rw [bne_iff_ne]; omega
    have en : (((l.length - 1 : Nat)) : Int) = (l.length : Int) - 1 := by omega
    have EN := Lib.hid en
    clear en
    by_cases hmv : i < (Hp.down lt (swp l i (l.length - 1)) i (l.length - 1)).2
    · have hrem : Hp.rem lt l i = (Hp.down lt (swp l i (l.length - 1)) i (l.length - 1)).1 := by
        unfold Hp.rem Hp.mend; rw [if_neg hne, if_pos hmv]
      have hrc : Hp.remCalls lt l i = ((2 : Int), (l.length : Int), (i : Int), (l.length : Int) - 1) :: Hp.downCalls lt (swp l i (l.length - 1)) i (l.length - 1) := by
        unfold Hp.remCalls Hp.mendCalls; rw [if_neg hne, if_pos hmv, List.append_nil]
      have HREM := Lib.hid hrem
      have HRC := Lib.hid hrc
      have HMV := Lib.hid hmv
      clear hR hrem hrc hmv
      go_enter Try.func40, Try.ntmps40
      go_wp2_with (first
        | (go_at_fn f0; refine hc0.mono ?_; rintro e w0 ⟨rfl, hR0⟩; obtain ⟨f1, v1, hm1, he1, hc1⟩ := H.swap l tr w0 i (l.length - 1) hR0 hi (by omega) (by have := HM.out; omega); rw [EN.out] at hc1; clear hm0 he0 hc0)
        | (go_at_fn f1; refine hc1.mono ?_; rintro e w1 ⟨rfl, hR1⟩; have hc2 := down_any H _ _ i (l.length - 1) w1 hR1 (by simp; omega) (by simp) (by have h9 := HM.out; rw [HRC.out] at h9; simp at h9 ⊢; omega); rw [EN.out, decide_eq_true HMV.out, ← HREM.out] at hc2; clear hm1 he1 hc1)
        | (go_at_call 47; refine hc2.mono ?_; rintro e w2 ⟨rfl, hR2⟩; obtain ⟨f3, v3, hm3, he3, hc3⟩ := POPS.out _ w2 hR2 (by have h9 := HM.out; rw [HRC.out] at h9; simp at h9 ⊢; omega); clear hc2)
        | (go_at_fn f3; refine hc3.mono ?_; rintro e w3 ⟨rfl, hR3⟩))
      go_ret
      refine ⟨rfl, ?_⟩
      rw [HRC.out]
      simpa using hR3
    · have hrem : Hp.rem lt l i = Hp.up lt (Hp.down lt (swp l i (l.length - 1)) i (l.length - 1)).1 i := by
        unfold Hp.rem Hp.mend; rw [if_neg hne, if_neg hmv]
      have hrc : Hp.remCalls lt l i = ((2 : Int), (l.length : Int), (i : Int), (l.length : Int) - 1) :: (Hp.downCalls lt (swp l i (l.length - 1)) i (l.length - 1) ++ Hp.upCalls lt (Hp.down lt (swp l i (l.length - 1)) i (l.length - 1)).1 i) := by
        unfold Hp.remCalls Hp.mendCalls; rw [if_neg hne, if_neg hmv]
      have HREM := Lib.hid hrem
      have HRC := Lib.hid hrc
      have HMV := Lib.hid hmv
      clear hR hrem hrc hmv
      go_enter Try.func40, Try.ntmps40
      go_wp2_with (first
        | (go_at_fn f0; refine hc0.mono ?_; rintro e w0 ⟨rfl, hR0⟩; obtain ⟨f1, v1, hm1, he1, hc1⟩ := H.swap l tr w0 i (l.length - 1) hR0 hi (by omega) (by have := HM.out; omega); rw [EN.out] at hc1; clear hm0 he0 hc0)
        | (go_at_fn f1; refine hc1.mono ?_; rintro e w1 ⟨rfl, hR1⟩; have hc2 := down_any H _ _ i (l.length - 1) w1 hR1 (by simp; omega) (by simp) (by have h9 := HM.out; rw [HRC.out] at h9; simp at h9 ⊢; omega); rw [EN.out, decide_eq_false HMV.out] at hc2; clear hm1 he1 hc1)
        | (go_at_call 47; refine hc2.mono ?_; rintro e w2 ⟨rfl, hR2⟩; have hc3 := up_any H _ _ i w2 hR2 (by simp; omega) (by have h9 := HM.out; rw [HRC.out] at h9; simp at h9 ⊢; omega); rw [← HREM.out] at hc3; clear hc2)
        | (go_at_call 48; refine hc3.mono ?_; rintro e w3 ⟨rfl, hR3⟩; obtain ⟨f4, v4, hm4, he4, hc4⟩ := POPS.out _ w3 hR3 (by have h9 := HM.out; rw [HRC.out] at h9; simp at h9 ⊢; omega); clear hc3)
        | (go_at_fn f4; refine hc4.mono ?_; rintro e w4 ⟨rfl, hR4⟩))
      go_ret
      refine ⟨rfl, ?_⟩
      rw [HRC.out]
      simpa using hR4
end
end Go.Proofs.Ytadacjndepkfeaa
