/-
  The helper function qSameStates of the laws: it returns true for equal lists of lists. Condition: memory holds them, each list within the reach of a slice.
-/
import Derived.Test.YtadacjndepkfeaaLawRun
namespace Go.Proofs.Ytadacjndepkfeaa
open Go.RowKit Go.Shelf
open Hp (g swp Ev St plc)

set_option maxHeartbeats 1000000 in
set_option maxRecDepth 100000 in
theorem qSameStates_eq (w : World) (A1 A2 : Option Addr) (n1 n2 c1 c2 : Nat) (S : List (List It)) (v1 v2 : List Value) (hl1 : n1 = S.length) (hl2 : n2 = S.length) (hr1 : Rd w A1 v1) (hr2 : Rd w A2 v2) (hs1 : SS (fun _ => False) w v1 S) (hs2 : SS (fun _ => False) w v2 S)
    (hn : S.length < 4611686018427387904) (hz : ∀ k, k < S.length → (g S k).length ≤ 13194139537408) :
    Calls Try.prog 26 #[.slice A1 n1 c1, .slice A2 n2 c2] w (Gives w (.bool true)) := by
  subst hl1
  subst hl2
  have HR1 := Lib.hid hr1
  have HR2 := Lib.hid hr2
  have HS1 := Lib.hid hs1
  have HS2 := Lib.hid hs2
  have HZ := Lib.hid hz
  clear hr1 hr2 hs1 hs2 hz
  go_enter Try.func26, Try.ntmps26
  go_wp2
  go_loopw [13] (fun s13 wr => ∃ (k : Nat), s13 = .int .i64 (k : Int) ∧ k ≤ S.length ∧ Below w.heap.size w wr) (fun s13 _ => S.length - (intOf s13).toNat)
  case atStart => exact ⟨0, rfl, by omega, Below.refl _ _⟩
  case round =>
    obtain ⟨k, rfl, hk, hbw⟩ := hrel
    have HBW := Lib.hid hbw
    clear hbw
    by_cases hlt : k < S.length
    · obtain ⟨b1, o1, Ax, cx, hA1, hb1, hcell1, hrx⟩ := st_at (HR1.out.below HBW.out (Nat.le_refl _)) (HS1.out.below HBW.out) k hlt
      obtain ⟨b2, o2, Ay, cy, hA2, hb2, hcell2, hry⟩ := st_at (HR2.out.below HBW.out (Nat.le_refl _)) (HS2.out.below HBW.out) k hlt
      have hxl := HZ.out k hlt
      subst hA1
      subst hA2
      obtain ⟨X, hX⟩ : ∃ X, X = g S k := ⟨_, rfl⟩
      rw [← hX] at hcell1 hcell2 hrx hry hxl
      have HRX := Lib.hid hrx
      have HRY := Lib.hid hry
      have hxn : X.length * 16 ≤ 211106232598528 := m16 hxl
      have hkS : (k : Int) < (S.length : Int) := by omega
      have hk0 : (0 : Int) ≤ (k : Int) := by omega
      clear hX hrx hry
      go_wp2_with fail
      go_region_held3 (fun w' => w'.cell? ⟨b1, o1 + k, none⟩ = some (.slice Ax X.length cx) ∧ w'.cell? ⟨b2, o2 + k, none⟩ = some (.slice Ay X.length cy))
        (first
          | exact ⟨ka1, ka2⟩
          | exact ⟨hcell1, hcell2⟩
          | go_keep)
        (first
          | (go_at_call 18
             ((with_reducible refine (sameItems_eq _ Ax Ay _ _ cx cy X rfl rfl ?_ ?_ hxn).mono ?_)
              · exact HRX.out.below (Below.refl _ _).drew (Nat.le_refl _)
              · exact HRY.out.below (Below.refl _ _).drew (Nat.le_refl _)
              rintro e w8 ⟨rfl, hb8⟩
              have ka1 := (hb8.cell (p := ⟨b1, o1 + k, none⟩) hb1).trans hcell1
              have ka2 := (hb8.cell (p := ⟨b2, o2 + k, none⟩) hb2).trans hcell2)))
      have HB8 := Lib.hid (bnext HBW.out.drew hb8)
      clear hb8 ka1 ka2 hcell1 hcell2
      go_wp2
      go_roundw
      case rel => exact ⟨k + 1, by go_num, by omega, HB8.out⟩
      case measure => simp [intOf]; omega
    · go_wp2
      go_ret
      exact ⟨rfl, HBW.out⟩
end Go.Proofs.Ytadacjndepkfeaa
