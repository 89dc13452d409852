/-
  The exact laws' functions on items: eqItemS, markItemS, heldItemS. Conditions: memory holds the lists that they are handed.
-/
import Derived.Test.YtpjdpcpcfcohiaaItemB
import Derived.Test.YtpjdpcpcfcohiaaExactS
namespace Go.Proofs.Ytpjdpcpcfcohiaa
open Go.RowKit Go.Shelf
open Hp (g swp Ev St plc)

set_option maxHeartbeats 1000000 in
set_option maxRecDepth 100000 in
theorem eqItem_any (w : World) (x y : Int) :
    Calls Try.prog 40 #[.agg #[.int .i64 x, .int .i64 y], .agg #[.int .i64 x, .int .i64 y]] w (Gives w (.bool true)) := by
  go_enter Try.func40, Try.ntmps40
  go_wp2
  go_ret
  refine ⟨rfl, ?_⟩
  exact ((Below.refl _ _).alloc (Nat.le_refl _) _).alloc (by simp) _

set_option maxHeartbeats 2000000 in
set_option maxRecDepth 100000 in
theorem eqItemS_eq (w : World) (A1 A2 : Option Addr) (n1 n2 c1 c2 : Nat) (l : List It) (hl1 : n1 = l.length) (hl2 : n2 = l.length) (hr1 : Rd w A1 (cls l)) (hr2 : Rd w A2 (cls l)) (hn : l.length ≤ 13194139537408) :
    Calls Try.prog 18 #[.slice A1 n1 c1, .slice A2 n2 c2] w (Gives w (.bool true)) := by
  subst hl1
  subst hl2
  have HR1 := Lib.hid hr1
  have HR2 := Lib.hid hr2
  clear hr1 hr2
  go_enter Try.func18, Try.ntmps18
  go_wp2
  go_loopw [5] (fun s5 wr => ∃ (k : Nat), s5 = .int .i64 (k : Int) ∧ k ≤ l.length ∧ Below w.heap.size w wr) (fun s5 _ => l.length - (intOf s5).toNat)
  case atStart => exact ⟨0, rfl, by omega, Below.refl _ _⟩
  case round =>
    obtain ⟨k, rfl, hk, hb⟩ := hrel
    by_cases hlt : k < l.length
    · obtain ⟨b, o, hA, hbb, h1, h2⟩ := (HR1.out.below hb (Nat.le_refl _)).at_ k hlt
      obtain ⟨b', o', hA', hbb', h1', h2'⟩ := (HR2.out.below hb (Nat.le_refl _)).at_ k hlt
      subst hA
      subst hA'
      obtain ⟨⟨x, y⟩, hx⟩ : ∃ s, g l k = s := ⟨_, rfl⟩
      rw [hx] at h1 h2 h1' h2'
      have i0 : (0 : Int) ≤ (k : Int) := by omega
      have i1 : (k : Int) < (l.length : Int) := by omega
      have HB := Lib.hid hb
      clear hx hb
      go_wp2_with fail
      go_region_held3 (fun w' => w'.cell? ⟨b, o + k * 2, none⟩ = some (.int .i64 x) ∧ w'.cell? ⟨b, o + k * 2 + 1, none⟩ = some (.int .i64 y) ∧ w'.cell? ⟨b', o' + k * 2, none⟩ = some (.int .i64 x) ∧ w'.cell? ⟨b', o' + k * 2 + 1, none⟩ = some (.int .i64 y))
        (first
          | exact ⟨(hb1.cell (p := ⟨b, o + k * 2, none⟩) hbb).trans h1, (hb1.cell (p := ⟨b, o + k * 2 + 1, none⟩) hbb).trans h2, (hb1.cell (p := ⟨b', o' + k * 2, none⟩) hbb').trans h1', (hb1.cell (p := ⟨b', o' + k * 2 + 1, none⟩) hbb').trans h2'⟩
          | exact ⟨h1, h2, h1', h2'⟩
          | go_keep)
        (first
          | (go_at_call 40
             ((with_reducible refine (eqItem_any _ x y).mono ?_)
              rintro e w1 ⟨rfl, hb1'⟩
              have hb1 : Below wr.heap.size wr w1 := (Below.refl _ _).drew.trans hb1')))
      have HB1 := Lib.hid (bnext HB.out hb1)
      clear hb1 hb1'
      go_wp2
      go_roundw
      case rel => exact ⟨k + 1, by go_num, by omega, HB1.out⟩
      case measure => simp [intOf]; omega
    · go_wp2
      go_ret
      exact ⟨rfl, hb⟩

/-- Items that are marked from a number on. -/
def marks (kk n : Nat) : List It := (List.range n).map (fun (i : Nat) => (((kk + 2 * i : Nat) : Int), ((kk + 2 * i + 1 : Nat) : Int)))
theorem length_marks (kk n : Nat) : (marks kk n).length = n := by simp [marks]
theorem marks_at (kk n i : Nat) (h : i < n) : g (marks kk n) i = (((kk + 2 * i : Nat) : Int), ((kk + 2 * i + 1 : Nat) : Int)) := by
  rw [← Hp.g_eq (by rw [length_marks]; exact h)]
  simp [marks]
theorem marks_succ (kk n : Nat) : marks kk (n + 1) = marks kk n ++ [(((kk + 2 * n : Nat) : Int), ((kk + 2 * n + 1 : Nat) : Int))] := by
  unfold marks
  rw [List.range_succ, List.map_append]
  rfl
theorem marks_step {kk i : Nat} {l : List It} (h : i < l.length) : (marks kk i ++ l.drop i).set i (((kk + 2 * i : Nat) : Int), ((kk + 2 * i + 1 : Nat) : Int)) = marks kk (i + 1) ++ l.drop (i + 1) := by
  have e : (marks kk i).length = i := length_marks _ _
  have e3 : l.drop i = g l i :: l.drop (i + 1) := by rw [← Hp.g_eq h]; exact List.drop_eq_getElem_cons h
  rw [e3, List.set_append_right _ _ (by omega), e, Nat.sub_self, List.set_cons_zero, marks_succ, List.append_assoc]
  rfl

set_option maxHeartbeats 2000000 in
set_option maxRecDepth 100000 in
theorem markItemS_any (w : World) (B : Nat) (A : Option Addr) (n c : Nat) (l : List It) (kk : Nat) (hl : n = l.length) (ho : w.ownsRow B 34 2 (.slice A n c) n (cls l)) (hn : l.length ≤ 13194139537408) (hk : kk ≤ 13194139537408) :
    Calls Try.prog 21 #[.slice A n c, .int .i64 (kk : Int)] w fun e w' => e = .returned (.int .i64 ((kk + 2 * n : Nat) : Int)) ∧ w'.ownsRow B 34 2 (.slice A n c) n (cls (marks kk n)) ∧ w.grownBy w' (Value.slice A n c).ownBlock := by
  subst hl
  have HO := Lib.hid ho
  clear ho
  go_enter Try.func21, Try.ntmps21
  go_wp2
  go_loopw [1, 5] (fun s1 s5 wr => ∃ (i : Nat), s5 = .int .i64 (i : Int) ∧ i ≤ l.length ∧ s1 = .int .i64 ((kk + 2 * i : Nat) : Int) ∧ Aside (wr.ownsRow B 34 2 (.slice A l.length c) l.length (cls (marks kk i ++ l.drop i))) ∧ Aside (w.grownBy wr (Value.slice A l.length c).ownBlock)) (fun _ s5 _ => l.length - (intOf s5).toNat)
  case atStart => exact ⟨0, rfl, by omega, rfl, HO.out, World.grownBy.refl _ _⟩
  case round =>
    obtain ⟨i, rfl, hi, rfl, hown, hg⟩ := hrel
    by_cases hlt : i < l.length
    · obtain ⟨gb, hA, hgb1, hgb2⟩ := own_addr hown.out (by omega)
      subst hA
      have hfz := fun j => hown.out.frozenAt j
      obtain ⟨T, hT⟩ : ∃ T, T = marks kk i ++ l.drop i := ⟨_, rfl⟩
      have hTl : T.length = l.length := by rw [hT, List.length_append, length_marks, List.length_drop]; omega
      have hms := marks_step (kk := kk) hlt
      have ho := hown.out
      rw [← hT] at ho hms
      obtain ⟨c1, c2⟩ := cls_at T i (by omega)
      have q1 := (ho.cellAt (i * 2) (by omega)).trans c1
      have q2 := (ho.cellAt (i * 2 + 1) (by omega)).trans c2
      obtain ⟨⟨z1, z2⟩, hz⟩ : ∃ z, g T i = z := ⟨_, rfl⟩
      rw [hz] at q1 q2
      have hst := ((ho.stored (i * 2) (.int .i64 ((kk + 2 * i : Nat) : Int))).1.stored (i * 2 + 1) (.int .i64 ((kk + 2 * i + 1 : Nat) : Int))).1
      have hcs := cls_set T i (((kk + 2 * i : Nat) : Int), ((kk + 2 * i + 1 : Nat) : Int)) (by omega)
      simp only at hcs
      rw [← hcs, hms] at hst
      obtain ⟨K, hK⟩ : ∃ K, K = kk + 2 * i := ⟨_, rfl⟩
      have hKs : K ≤ 100000000000000 := by omega
      have HK := Lib.hid hK
      rw [← hK] at hst ⊢
      rw [show ((K + 1 : Nat) : Int) = (K : Int) + 1 by omega] at hst
      have HN := Lib.hid hst
      have HG := Lib.hid (show w.grownBy ((wr.setCell ⟨gb, i * 2, none⟩ (.int .i64 (K : Int))).setCell ⟨gb, i * 2 + 1, none⟩ (.int .i64 ((K : Int) + 1))) (some gb) from grown_set (grown_set hg.out))
      clear c1 c2 hz hK hown hg ho hT hTl hms hst hcs
      go_wp2
      go_roundw
      case rel => exact ⟨i + 1, by go_num, by omega, by congr 1; have := HK.out; omega, HN.out, HG.out⟩
      case measure => simp [intOf]; omega
    · go_wp2
      go_ret
      have hie : i = l.length := by omega
      subst hie
      have ho := hown.out
      rw [List.drop_length, List.append_nil] at ho
      exact ⟨rfl, ho, hg.out⟩

set_option maxHeartbeats 2000000 in
set_option maxRecDepth 100000 in
theorem heldItemS_any (w : World) (A : Option Addr) (n c kk : Nat) (hr : Rd w A (cls (marks kk n))) (hn : n ≤ 13194139537408) (hk : kk ≤ 13194139537408) :
    Calls Try.prog 22 #[.slice A n c, .int .i64 (kk : Int)] w (Gives w (.int .i64 ((kk + 2 * n : Nat) : Int))) := by
  have HR := Lib.hid hr
  clear hr
  go_enter Try.func22, Try.ntmps22
  go_wp2
  go_loopw [1, 5] (fun s1 s5 wr => ∃ (i : Nat), s5 = .int .i64 (i : Int) ∧ i ≤ n ∧ s1 = .int .i64 ((kk + 2 * i : Nat) : Int) ∧ wr = w) (fun _ s5 _ => n - (intOf s5).toNat)
  case atStart => exact ⟨0, rfl, by omega, rfl, rfl⟩
  case round =>
    obtain ⟨i, rfl, hi, rfl, rfl⟩ := hrel
    by_cases hlt : i < n
    · obtain ⟨b, o, hA, hbb, h1, h2⟩ := HR.out.at_ i (by rw [length_marks]; exact hlt)
      subst hA
      rw [marks_at kk n i hlt] at h1 h2
      simp only at h1 h2
      obtain ⟨K, hK⟩ : ∃ K, K = kk + 2 * i := ⟨_, rfl⟩
      have hKs : K ≤ 100000000000000 := by omega
      have HK := Lib.hid hK
      rw [← hK] at h1 h2 ⊢
      rw [show ((K + 1 : Nat) : Int) = (K : Int) + 1 by omega] at h2
      clear hK
      go_wp2
      go_roundw
      case rel => exact ⟨i + 1, by go_num, by omega, by congr 1; have := HK.out; omega, trivial⟩
      case measure => simp [intOf]; omega
    · go_wp2
      go_ret
      have hie : i = n := by omega
      subst hie
      exact ⟨rfl, Below.refl _ _⟩
end Go.Proofs.Ytpjdpcpcfcohiaa
