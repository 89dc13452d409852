/-
  impl.HeapScriptInts as the laws use it: what it returns, by the ascending list alone, as letters; the helper functions sameInts and whole of the laws. Conditions: memory holds the numbers and the steps; they are within the reach of slices.
-/
import Derived.Test.YtjojlnmcifkenaaScriptW
namespace Go.Proofs.Ytjojlnmcifkenaa
open Go.RowKit Go.Shelf
open Hp (g swp Ev St plc)

/-- What HeapScriptInts leaves. -/
def TwoP (w : World) (x : List Int) (ss : List St) (e : Ending) (w' : World) : Prop :=
  ∃ a b A c A2 c2, (a = Hp.outA (Hp.srt x) ss ∧ b = Hp.aftA (Hp.srt x) ss) ∧ e = .returned (.tuple #[.slice A a.length c, .slice A2 b.length c2]) ∧ w'.ownsRow w.heap.size 3 1 (.slice A a.length c) a.length (clsN a) ∧ w'.ownsRow w.heap.size 3 1 (.slice A2 b.length c2) b.length (clsN b) ∧
    (∀ k, (Value.slice A a.length c).ownBlock = some k → (Value.slice A2 b.length c2).ownBlock ≠ some k) ∧ Below w.heap.size w w'
theorem script_law (w : World) (A As : Option Addr) (n c m cs : Nat) (x : List Int) (ss : List St) (hl : n = x.length) (hm : m = ss.length) (hr : Rd w A (clsN x)) (hrs : Rd w As (clsT ss)) (hn : x.length + ss.length + 1 ≤ 26388279066624) :
    Calls Try.prog 15 #[.slice A n c, .slice As m cs] w (TwoP w x ss) := by
  refine (script_walk w A As n c m cs x ss hl hm hr hrs hn).mono ?_
  rintro e w' ⟨A1, c1, A2, c2, rfl, h1, h2, h3, h4⟩
  obtain ⟨e1, e2⟩ := Hp.script_ints x ss
  exact ⟨_, _, A1, c1, A2, c2, ⟨e1, e2⟩, rfl, h1, h2, h3, h4⟩

theorem outA_length (ss : List St) (m : List Int) : (Hp.outA m ss).length ≤ ss.length ∧ (Hp.aftA m ss).length ≤ m.length + ss.length := by
  induction ss generalizing m with
  | nil => simp [Hp.outA, Hp.aftA]
  | cons s ss ih =>
    have h1 := ih (Hp.stpA s m).1
    have h2 : (Hp.stpA s m).2.length ≤ 1 ∧ (Hp.stpA s m).1.length ≤ m.length + 1 := by
      unfold Hp.stpA
      split
      · simp [Hp.length_ins]
      · split
        · simp
        · split
          · simp
            omega
          · split <;> simp [Hp.length_ins]
    simp only [Hp.outA, Hp.aftA, List.length_append, List.length_cons]
    omega

set_option maxHeartbeats 1000000 in
set_option maxRecDepth 100000 in
theorem sameInts_eq (w : World) (A1 A2 : Option Addr) (n1 n2 c1 c2 : Nat) (l : List Int) (hl1 : n1 = l.length) (hl2 : n2 = l.length) (hr1 : Rd w A1 (clsN l)) (hr2 : Rd w A2 (clsN l)) (hn : l.length ≤ 26388279066624) :
    Calls Try.prog 21 #[.slice A1 n1 c1, .slice A2 n2 c2] w (Gives w (.bool true)) := by
  subst hl1
  subst hl2
  go_enter Try.func21, Try.ntmps21
  go_wp2
  go_loopw [13] (fun s13 wr => ∃ (k q : Nat), s13 = .int .i64 (k : Int) ∧ k ≤ l.length ∧ wr = w.drewN q) (fun s13 _ => l.length - (intOf s13).toNat)
  case atStart => exact ⟨0, 0, rfl, by omega, rfl⟩
  case round =>
    obtain ⟨k, q, rfl, hk, rfl⟩ := hrel
    by_cases hlt : k < l.length
    · obtain ⟨b, o, rfl, hbb, h1⟩ := hr1.atN k hlt
      obtain ⟨b', o', rfl, hbb', h1'⟩ := hr2.atN k hlt
      obtain ⟨y1, hy⟩ : ∃ y, g l k = y := ⟨_, rfl⟩
      rw [hy] at h1 h1'
      clear hy hr1 hr2
      go_wp2_with fail
      go_quiet (fail)
      go_wp2
      go_roundw
      case rel => exact ⟨k + 1, q + nq, by go_num, by omega, rfl⟩
      case measure => simp [intOf]; omega
    · go_wp2
      go_ret
      exact ⟨rfl, below_drewN (Below.refl _ _) _⟩

set_option maxHeartbeats 1000000 in
set_option maxRecDepth 100000 in
theorem whole_any (w : World) (A : Option Addr) (n c : Nat) (x : List Int) (hl : n = x.length) (hr : Rd w A (clsN x)) (hn : x.length + 1 ≤ 26388279066624) :
    Calls Try.prog 23 #[.slice A n c] w (Gives w (.bool true)) := by
  subst hl
  have HC := Lib.hid (script_law w A none x.length c 0 0 x [] rfl rfl hr (.inl rfl) (by simpa using hn))
  clear hr
  go_enter Try.func23, Try.ntmps23
  go_wp2_with fail
  refine HC.out.mono ?_
  rintro e w1 ⟨a, b, A1, c1, A2, c2, ⟨ea, eb⟩, rfl, h1, h2, h3, h4⟩
  have ha : ((a.length : Int) == 0) = true := by rw [ea]; rfl
  have hb : ((b.length : Int) == (x.length : Int)) = true := by rw [eb, show Hp.aftA (Hp.srt x) [] = Hp.srt x from rfl, Hp.length_srt]; simp
  have HB := Lib.hid h4
  clear ea eb h1 h2 h3 h4 HC
  go_wp2
  go_ret
  exact ⟨rfl, HB.out⟩
end Go.Proofs.Ytjojlnmcifkenaa
