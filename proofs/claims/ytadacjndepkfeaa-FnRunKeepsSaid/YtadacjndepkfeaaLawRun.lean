/-
  impl.HeapRun and impl.HeapContinue, as the laws use them: the lists as letters, with what is known of them. Conditions: memory holds the list and the steps; they are within the reach of slices.
-/
import Derived.Test.YtadacjndepkfeaaRun
namespace Go.Proofs.Ytadacjndepkfeaa
open Go.RowKit Go.Shelf
open Hp (g swp Ev St plc)

/-- What is known of the lists that a script goes through from L on, and of what it returns. -/
structure RunF (L : List It) (ss : List St) (S : List (List It)) (O : List It) : Prop where
  eqS : S = stsI L ss
  eqO : O = outsI L ss
  len : S.length = ss.length + 1
  size : ∀ k, k ≤ ss.length → (g S k).length ≤ L.length + ss.length
  outl : O.length ≤ ss.length
  next : ∀ k, k < ss.length → g S (k + 1) = (stpI (g ss k) (g S k)).1
  zero : g S 0 = L
  aft : ∀ k, k ≤ ss.length → g S k = afterI L (ss.take k)

theorem runF (L : List It) (ss : List St) : RunF L ss (stsI L ss) (outsI L ss) := by
  have h : ∀ k, k ≤ ss.length → g (stsI L ss) k = afterI L (ss.take k) := fun k hk => Hp.g_sts ltK mkI ss L k hk
  refine ⟨rfl, rfl, Hp.length_sts ltK mkI ss L, ?_, Hp.outs_length ltK mkI ss L, ?_, ?_, h⟩
  · intro k hk
    rw [h k hk]
    exact Nat.le_trans (afterI_length ss L k) (by omega)
  · intro k hk
    rw [h _ (by omega), h k (by omega), afterI_succ ss L k hk]
  · rw [h 0 (by omega)]; rfl
theorem RunF.ho {L : List It} {ss : List St} {S : List (List It)} {O : List It} (h : RunF L ss S O) (hL : Hp.HO ltK L L.length) : ∀ k, k ≤ ss.length → Hp.HO ltK (g S k) (g S k).length := by
  intro k hk
  rw [h.aft k hk]
  exact Hp.after_HO ltK mkI wo_ltK _ L hL

/-- What HeapRun and HeapContinue leave. -/
def RunP (w : World) (L : List It) (ss : List St) (e : Ending) (w' : World) : Prop :=
  ∃ S O A c A2 c2 vs, RunF L ss S O ∧ e = .returned (.tuple #[.slice A S.length c, .slice A2 O.length c2]) ∧ Rd w' A vs ∧ SS (fun _ => False) w' vs S ∧
    w'.ownsRow w.heap.size 36 2 (.slice A2 O.length c2) O.length (cls O) ∧ Below w.heap.size w w'

theorem runP_of {w : World} {L : List It} {ss : List St} : ∀ e w', Runs w (stsI L ss) (outsI L ss) e w' → RunP w L ss e w' := by
  rintro e w' ⟨A, c, A2, c2, vs, rfl, h1, h2, h3, h4⟩
  exact ⟨_, _, A, c, A2, c2, vs, runF L ss, rfl, Rd.of_own h1, h2, h3, h4⟩

theorem run_law (w : World) (A As : Option Addr) (n c m cs : Nat) (l : List It) (ss : List St) (hl : n = l.length) (hm : m = ss.length) (hr : Rd w A (cls l)) (hrs : Rd w As (clsT ss)) (hn : l.length + ss.length + 1 ≤ 13194139537408) (hns : ss.length * 32 ≤ 140737488355328) :
    Calls Try.prog 15 #[.slice A n c, .slice As m cs] w (RunP w (Hp.init ltK l) ss) :=
  (heapRun_any w A As n c m cs l ss hl hm hr hrs (m16 hn) hns).mono runP_of
theorem continue_law (w : World) (A As : Option Addr) (n c m cs : Nat) (l : List It) (ss : List St) (hl : n = l.length) (hm : m = ss.length) (hr : Rd w A (cls l)) (hrs : Rd w As (clsT ss)) (hn : l.length + ss.length + 1 ≤ 13194139537408) (hns : ss.length * 32 ≤ 140737488355328) :
    Calls Try.prog 27 #[.slice A n c, .slice As m cs] w (RunP w l ss) :=
  (heapContinue_any w A As n c m cs l ss hl hm hr hrs (m16 hn) hns).mono runP_of

theorem SS.below {w w' : World} {vs : List Value} {S : List (List It)} (h : SS (fun _ => False) w vs S) (hb : Below w.heap.size w w') : SS (fun _ => False) w' vs S :=
  h.frm (Frm.of_new (X := fun _ => False) hb) (fun _ _ e => e) (fun _ _ e => e)
/-- The list with an index of a list of lists. -/
theorem st_at {w : World} {A : Option Addr} {vs : List Value} {S : List (List It)} (hr : Rd w A vs) (hs : SS (fun _ => False) w vs S) (k : Nat) (hk : k < S.length) :
    ∃ (b o : Nat) (A' : Option Addr) (c' : Nat), A = some ⟨b, o, none⟩ ∧ b < w.heap.size ∧ w.cell? ⟨b, o + k, none⟩ = some (.slice A' (g S k).length c') ∧ Rd w A' (cls (g S k)) := by
  obtain ⟨A', c', h1, h2⟩ := hs.at_ k hk
  rcases hr with h | ⟨b, o, h3, h4, h5⟩
  · rw [h] at h1; simp at h1
  · exact ⟨b, o, A', c', h3, h4, h5 k _ h1, h2⟩
end Go.Proofs.Ytadacjndepkfeaa
