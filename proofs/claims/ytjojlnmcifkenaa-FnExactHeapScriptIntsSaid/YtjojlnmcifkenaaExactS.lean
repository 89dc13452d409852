/-
  The exact laws' functions on steps: szStepS, eqStepS, markStepS. Conditions: memory holds the lists that they are handed.
-/
import Derived.Test.YtjojlnmcifkenaaSteps
import Derived.Deep.RegionHeld3
namespace Go.Proofs.Ytjojlnmcifkenaa
open Go.RowKit Go.Shelf
open Hp (g swp Ev St plc)

set_option maxHeartbeats 1000000 in
theorem szStepS_small (w : World) (A : Option Addr) (n c : Nat) (hn : n ≤ 1048576) :
    Calls Try.prog 11 #[.slice A n c, .int .i64 1048576] w fun e w' => e = .returned (.int .i64 (1048576 - (n : Int))) ∧ w = w' := by
  go_enter Try.func11, Try.ntmps11
  go_wp2
  go_ret
  exact ⟨rfl, rfl⟩
set_option maxHeartbeats 1000000 in
theorem szStepS_big (w : World) (A : Option Addr) (n c : Nat) (hn : 1048576 < n) (hm : n ≤ 13194139537408) :
    Calls Try.prog 11 #[.slice A n c, .int .i64 1048576] w fun e w' => e = .returned (.int .i64 (-1)) ∧ w = w' := by
  go_enter Try.func11, Try.ntmps11
  go_wp2
  go_ret
  exact ⟨rfl, rfl⟩

set_option maxHeartbeats 1000000 in
set_option maxRecDepth 100000 in
theorem eqStep_any (w : World) (q a k t : Int) :
    Calls Try.prog 37 #[.agg #[.int .i64 q, .int .i64 a, .int .i64 k, .int .i64 t], .agg #[.int .i64 q, .int .i64 a, .int .i64 k, .int .i64 t]] w (Gives w (.bool true)) := by
  go_enter Try.func37, Try.ntmps37
  go_wp2
  go_ret
  refine ⟨rfl, ?_⟩
  exact ((Below.refl _ _).alloc (Nat.le_refl _) _).alloc (by simp) _

set_option maxHeartbeats 2000000 in
set_option maxRecDepth 100000 in
theorem eqStepS_eq (w : World) (A1 A2 : Option Addr) (n1 n2 c1 c2 : Nat) (l : List St) (hl1 : n1 = l.length) (hl2 : n2 = l.length) (hr1 : Rd w A1 (clsT l)) (hr2 : Rd w A2 (clsT l)) (hn : l.length ≤ 13194139537408) :
    Calls Try.prog 17 #[.slice A1 n1 c1, .slice A2 n2 c2] w (Gives w (.bool true)) := by
  subst hl1
  subst hl2
  have HR1 := Lib.hid hr1
  have HR2 := Lib.hid hr2
  clear hr1 hr2
  go_enter Try.func17, Try.ntmps17
  go_wp2
  go_loopw [5] (fun s5 wr => ∃ (k : Nat), s5 = .int .i64 (k : Int) ∧ k ≤ l.length ∧ Below w.heap.size w wr) (fun s5 _ => l.length - (intOf s5).toNat)
  case atStart => exact ⟨0, rfl, by omega, Below.refl _ _⟩
  case round =>
    obtain ⟨k, rfl, hk, hb⟩ := hrel
    by_cases hlt : k < l.length
    · obtain ⟨b, o, hA, hbb, h1, h2, h3, h4⟩ := (HR1.out.below hb (Nat.le_refl _)).atT k hlt
      obtain ⟨b', o', hA', hbb', h1', h2', h3', h4'⟩ := (HR2.out.below hb (Nat.le_refl _)).atT k hlt
      subst hA
      subst hA'
      obtain ⟨⟨q, a, kk, t⟩, hx⟩ : ∃ s, g l k = s := ⟨_, rfl⟩
      rw [hx] at h1 h2 h3 h4 h1' h2' h3' h4'
      have i0 : (0 : Int) ≤ (k : Int) := by omega
      have i1 : (k : Int) < (l.length : Int) := by omega
      have HB := Lib.hid hb
      clear hx hb
      go_wp2_with fail
      go_region_held3 (fun w' => w'.cell? ⟨b, o + k * 4, none⟩ = some (.int .i64 q) ∧ w'.cell? ⟨b, o + k * 4 + 1, none⟩ = some (.int .i64 a) ∧ w'.cell? ⟨b, o + k * 4 + 2, none⟩ = some (.int .i64 kk) ∧ w'.cell? ⟨b, o + k * 4 + 3, none⟩ = some (.int .i64 t) ∧
          w'.cell? ⟨b', o' + k * 4, none⟩ = some (.int .i64 q) ∧ w'.cell? ⟨b', o' + k * 4 + 1, none⟩ = some (.int .i64 a) ∧ w'.cell? ⟨b', o' + k * 4 + 2, none⟩ = some (.int .i64 kk) ∧ w'.cell? ⟨b', o' + k * 4 + 3, none⟩ = some (.int .i64 t))
        (first
          | exact ⟨(hb1.cell (p := ⟨b, o + k * 4, none⟩) hbb).trans h1, (hb1.cell (p := ⟨b, o + k * 4 + 1, none⟩) hbb).trans h2, (hb1.cell (p := ⟨b, o + k * 4 + 2, none⟩) hbb).trans h3, (hb1.cell (p := ⟨b, o + k * 4 + 3, none⟩) hbb).trans h4,
              (hb1.cell (p := ⟨b', o' + k * 4, none⟩) hbb').trans h1', (hb1.cell (p := ⟨b', o' + k * 4 + 1, none⟩) hbb').trans h2', (hb1.cell (p := ⟨b', o' + k * 4 + 2, none⟩) hbb').trans h3', (hb1.cell (p := ⟨b', o' + k * 4 + 3, none⟩) hbb').trans h4'⟩
          | exact ⟨h1, h2, h3, h4, h1', h2', h3', h4'⟩
          | go_keep)
        (first
          | (go_at_call 37
             ((with_reducible refine (eqStep_any _ q a kk t).mono ?_)
              rintro e w1 ⟨rfl, hb1'⟩
              have hb1 : Below wr.heap.size wr w1 := (Below.refl _ _).drew.trans hb1')))
      have HB1 := Lib.hid (bnext HB.out hb1)
      clear hb1 hb1'
      go_wp2
      go_roundw
      case rel => exact ⟨k + 1, by go_num, by omega, HB1.out⟩
      case measure => simp [intOf]; omega
    · go_wp2
      go_ret
      exact ⟨rfl, hb⟩

/-- What a function that writes over a list leaves: the list is another one of the same length. -/
def Marked (w : World) (B : Nat) (e0 : TypeId) (z : Nat) (v : Value) (n : Nat) (r : Int) (e : Ending) (w' : World) : Prop :=
  e = .returned (.int .i64 r) ∧ (∃ xs, w'.ownsRow B e0 z v n xs) ∧ w.grownBy w' v.ownBlock
theorem grown_set {w a : World} {gb k : Nat} {u : Value} (ha : w.grownBy a (some gb)) : w.grownBy (a.setCell ⟨gb, k, none⟩ u) (some gb) :=
  ⟨ha.os, ha.tape, ha.output, by simpa [World.setCell] using ha.size, fun i hi hne => (Below.heap_setCell a ⟨gb, k, none⟩ u i (fun e => hne (by rw [e]))).trans (ha.block i hi hne)⟩

set_option maxHeartbeats 2000000 in
set_option maxRecDepth 100000 in
theorem markStepS_any (w : World) (B : Nat) (A : Option Addr) (n c : Nat) (l : List St) (kk : Nat) (hl : n = l.length) (ho : w.ownsRow B 36 4 (.slice A n c) n (clsT l)) (hn : l.length ≤ 13194139537408) (hk : kk ≤ 13194139537408) :
    Calls Try.prog 19 #[.slice A n c, .int .i64 (kk : Int)] w (Marked w B 36 4 (.slice A n c) n ((kk + 4 * n : Nat) : Int)) := by
  subst hl
  have HO := Lib.hid ho
  clear ho
  go_enter Try.func19, Try.ntmps19
  go_wp2
  go_loopw [1, 5] (fun s1 s5 wr => ∃ (i : Nat) (l' : List St), s5 = .int .i64 (i : Int) ∧ i ≤ l.length ∧ s1 = .int .i64 ((kk + 4 * i : Nat) : Int) ∧ Hid (l'.length = l.length) ∧ Aside (wr.ownsRow B 36 4 (.slice A l.length c) l.length (clsT l')) ∧ Aside (w.grownBy wr (Value.slice A l.length c).ownBlock)) (fun _ s5 _ => l.length - (intOf s5).toNat)
  case atStart => exact ⟨0, l, rfl, by omega, rfl, rfl, HO.out, World.grownBy.refl _ _⟩
  case round =>
    obtain ⟨i, l', rfl, hi, rfl, HL, hown, hg⟩ := hrel
    by_cases hlt : i < l.length
    · obtain ⟨gb, hA, hgb1, hgb2⟩ := own_addr hown.out (by omega)
      subst hA
      have hfz := fun j => hown.out.frozenAt j
      obtain ⟨c1, c2, c3, c4⟩ := clsT_at l' i (by rw [HL.out]; exact hlt)
      have q1 := (hown.out.cellAt (i * 4) (by omega)).trans c1
      have q2 := (hown.out.cellAt (i * 4 + 1) (by omega)).trans c2
      have q3 := (hown.out.cellAt (i * 4 + 2) (by omega)).trans c3
      have q4 := (hown.out.cellAt (i * 4 + 3) (by omega)).trans c4
      obtain ⟨⟨z1, z2, z3, z4⟩, hz⟩ : ∃ z, g l' i = z := ⟨_, rfl⟩
      rw [hz] at q1 q2 q3 q4
      obtain ⟨K, hK⟩ : ∃ K, K = kk + 4 * i := ⟨_, rfl⟩
      have hKs : K ≤ 100000000000000 := by omega
      have HK := Lib.hid hK
      rw [← hK]
      have HN := Lib.hid (own_storeT hown.out i (by rw [HL.out]; exact hlt) ((K : Int), (K : Int) + 1, (K : Int) + 1 + 1, (K : Int) + 1 + 1 + 1))
      have HG := Lib.hid (show w.grownBy ((((wr.setCell ⟨gb, i * 4, none⟩ (.int .i64 (K : Int))).setCell ⟨gb, i * 4 + 1, none⟩ (.int .i64 ((K : Int) + 1))).setCell ⟨gb, i * 4 + 2, none⟩ (.int .i64 ((K : Int) + 1 + 1))).setCell ⟨gb, i * 4 + 3, none⟩ (.int .i64 ((K : Int) + 1 + 1 + 1))) (some gb) from grown_set (grown_set (grown_set (grown_set hg.out))))
      have HL2 := Lib.hid (show (l'.set i ((K : Int), (K : Int) + 1, (K : Int) + 1 + 1, (K : Int) + 1 + 1 + 1)).length = l.length by rw [List.length_set]; exact HL.out)
      clear c1 c2 c3 c4 hz hK hown hg
      go_wp2
      go_roundw
      case rel => exact ⟨i + 1, _, by go_num, by omega, by congr 1; have := HK.out; omega, HL2, HN.out, HG.out⟩
      case measure => simp [intOf]; omega
    · go_wp2
      go_ret
      have hie : i = l.length := by omega
      subst hie
      exact ⟨rfl, ⟨_, hown.out⟩, hg.out⟩
end Go.Proofs.Ytjojlnmcifkenaa
