/-
  heap.Push, for every implementation whose methods keep a list: what it makes of the list. Condition: the methods' contracts (HI, HPush).
-/
import Derived.Test.YtadacjndepkfeaaHeap
namespace Go.Proofs.Ytadacjndepkfeaa
open Go.RowKit Go.Shelf
open Hp (g swp Ev)

/-- What is asked of the method Push: it puts an element behind the last one, if there are less than N. -/
structure HPush (T : TypeId) (rv : Value) {α : Type} [Inhabited α] (enc : α → Value) (ev : α → Int × Int) (M N : Nat) (R : List α → List Ev → World → Prop) : Prop where
  push : ∀ l tr w x, R l tr w → l.length < N → tr.length < M → ∃ f v, (method 191 T rv "Push").run Try.prog w = .ok (f, v) w ∧ (∀ args w, (callFunc f args).run Try.prog w = .ok (.enter f args) w) ∧
    Calls Try.prog f #[v, enc x] w fun e w' => e = .returned (.tuple #[]) ∧ R (l ++ [x]) (tr ++ [((3 : Int), (l.length : Int), (ev x).1, (ev x).2)]) w'

section
variable {T : TypeId} {rv : Value} {α : Type} [Inhabited α] {lt : α → α → Bool} {M N : Nat} {R : List α → List Ev → World → Prop} {enc : α → Value} {ev : α → Int × Int}

set_option maxHeartbeats 1000000 in
set_option maxRecDepth 100000 in
theorem push_any (H : HI T rv lt M R) (HP : HPush T rv enc ev M N R) (l : List α) (tr : List Ev) (x : α) (w : World) (hR : R l tr w) (hN : l.length < N) (hM : tr.length + (Hp.upCalls lt (l ++ [x]) l.length).length < M) :
    Calls Try.prog 38 #[.iface T rv, enc x] w fun e w' => e = .returned (.tuple #[]) ∧
      R (Hp.push lt l x) (tr ++ [((3 : Int), (l.length : Int), (ev x).1, (ev x).2)] ++ Hp.upCalls lt (l ++ [x]) l.length) w' := by
  have hs0 := H.small _ _ _ hR
  obtain ⟨f0, v0, hm0, he0, hc0⟩ := HP.push l tr w x hR hN (by omega)
  have lens : ∀ (w1 : World), R (l ++ [x]) (tr ++ [((3 : Int), (l.length : Int), (ev x).1, (ev x).2)]) w1 → ∃ f v, (method 191 T rv "Len").run Try.prog w1 = .ok (f, v) w1 ∧ (∀ args w, (callFunc f args).run Try.prog w = .ok (.enter f args) w) ∧
      Calls Try.prog f #[v] w1 fun e w' => e = .returned (.int .i64 ((l.length : Int) + 1)) ∧ R (l ++ [x]) (tr ++ [((3 : Int), (l.length : Int), (ev x).1, (ev x).2)]) w' := by
    intro w1 h1
    have h2 := H.len _ _ _ h1
    rwa [List.length_append, show (((l.length + [x].length : Nat)) : Int) = (l.length : Int) + 1 by simp] at h2
  have LENS := Lib.hid lens
  have HM := Lib.hid hM
  clear lens hM hR
  obtain ⟨xv, hxv⟩ : ∃ xv, xv = enc x := ⟨_, rfl⟩
  rw [← hxv] at hc0 ⊢
  clear hxv
  go_enter Try.func38, Try.ntmps38
  go_wp2_with (first
    | (go_at_fn f0; refine hc0.mono ?_; rintro e w0 ⟨rfl, hR0⟩; obtain ⟨f1, v1, hm1, he1, hc1⟩ := LENS.out w0 hR0; clear hm0 he0 hc0)
    | (go_at_fn f1; refine hc1.mono ?_; rintro e w1 ⟨rfl, hR1⟩; have hc2 := up_any H _ _ l.length w1 hR1 (by simp) (by have h9 := HM.out; simp at h9 ⊢; omega); clear hm1 he1 hc1)
    | (go_at_call 48; refine hc2.mono ?_; rintro e w2 ⟨rfl, hR2⟩))
  go_end0
  exact ⟨rfl, hR2⟩
end
end Go.Proofs.Ytadacjndepkfeaa
