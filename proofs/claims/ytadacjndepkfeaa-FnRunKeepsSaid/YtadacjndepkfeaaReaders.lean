/-
  The helper functions of the laws that read lists of items: what they return. Condition: memory holds the lists that they are handed.
-/
import Derived.Test.YtadacjndepkfeaaToItems
import Derived.Deep.RegionHeld3
namespace Go.Proofs.Ytadacjndepkfeaa
open Go.RowKit Go.Shelf
open Hp (g swp Ev)

theorem count_take_succ (l : List It) (k : Nat) (h : k < l.length) (x : It) : (l.take (k + 1)).count x = (l.take k).count x + if g l k = x then 1 else 0 := by
  rw [take_succ_g l k h, List.count_append]
  congr 1
  by_cases e : g l k = x
  · simp [e]
  · simp [e]

theorem bnext {w W W' : World} (h : Below w.heap.size w W) (k : Below W.heap.size W W') : Below w.heap.size w W' := h.trans (k.mono h.size)

/-- What a function that only reads leaves. -/
def Gives (w : World) (v : Value) (e : Ending) (w' : World) : Prop := e = .returned v ∧ Below w.heap.size w w'

set_option maxHeartbeats 1000000 in
set_option maxRecDepth 100000 in
theorem countItem_any (w : World) (A : Option Addr) (n c : Nat) (l : List It) (x : It) (hl : n = l.length) (hr : Rd w A (cls l)) (hn : l.length * 16 ≤ 211106232598528) :
    Calls Try.prog 46 #[.slice A n c, .agg #[.int .i64 x.1, .int .i64 x.2]] w (Gives w (.int .i64 (l.count x : Nat))) := by
  subst hl
  obtain ⟨x1, x2⟩ := x
  go_enter Try.func46, Try.ntmps46
  go_wp2
  have hr' := hr.below ((Below.refl w.heap.size w).alloc (Nat.le_refl _) (.cells #[.int .i64 x1, .int .i64 x2] 36)) (Nat.le_refl _)
  go_loopw [5, 10] (fun s5 s10 wr => ∃ (k : Nat), s10 = .int .i64 (k : Int) ∧ k ≤ l.length ∧ s5 = .int .i64 (((l.take k).count (x1, x2) : Nat) : Int) ∧ Below (w.heap.size + 1) (w.alloc (.cells #[.int .i64 x1, .int .i64 x2] 36)) wr)
    (fun _ s10 _ => l.length - (intOf s10).toNat)
  case atStart => exact ⟨0, rfl, by omega, by simp, Below.refl _ _⟩
  case round =>
    obtain ⟨k, rfl, hk, rfl, hb⟩ := hrel
    have hsz := hb.size
    rw [heap_size_alloc] at hsz
    have hx1 : wr.cell? ⟨w.heap.size, 0, none⟩ = some (.int .i64 x1) := by
      rw [hb.cell (p := ⟨w.heap.size, 0, none⟩) (by simp)]; simp
    have hx2 : wr.cell? ⟨w.heap.size, 1, none⟩ = some (.int .i64 x2) := by
      rw [hb.cell (p := ⟨w.heap.size, 1, none⟩) (by simp)]; simp
    have hcl := List.count_le_length (a := (x1, x2)) (l := l.take k)
    have hcl2 := List.length_take_le k l
    by_cases hlt : k < l.length
    · obtain ⟨b, o, rfl, hbb, h1, h2⟩ := (hr'.below hb (by rw [heap_size_alloc]; exact Nat.le_refl _)).at_ k hlt
      have hcs := count_take_succ l k hlt (x1, x2)
      obtain ⟨⟨y1, y2⟩, hy⟩ : ∃ y, g l k = y := ⟨_, rfl⟩
      rw [hy] at h1 h2 hcs
      have HCS := Lib.hid hcs
      clear hr hr' hy hcs
      have hz : w.heap.size < wr.heap.size := by omega
      by_cases he1 : y1 = x1
      · by_cases he2 : y2 = x2
        · subst he1
          subst he2
          go_wp2
          go_roundw
          case rel => exact ⟨k + 1, by go_num, by omega, by rw [HCS.out]; simp, hb.alloc (by omega) _⟩
          case measure => simp [intOf]; omega
        · subst he1
          have hq : (y2 == x2) = false := by simpa using he2
          have HN : Hid (¬ (y1, y2) = (y1, x2)) := by intro h; injection h with _ h; exact he2 h
          clear he2
          go_wp2
          go_roundw
          case rel => exact ⟨k + 1, by go_num, by omega, by rw [HCS.out, if_neg HN.out]; simp, hb.alloc (by omega) _⟩
          case measure => simp [intOf]; omega
      · have hq : (y1 == x1) = false := by simpa using he1
        have HN : Hid (¬ (y1, y2) = (x1, x2)) := by intro h; injection h with h _; exact he1 h
        clear he1
        go_wp2
        go_roundw
        case rel => exact ⟨k + 1, by go_num, by omega, by rw [HCS.out, if_neg HN.out]; simp, hb.alloc (by omega) _⟩
        case measure => simp [intOf]; omega
    · go_wp2
      go_ret
      refine ⟨?_, ((Below.refl _ _).alloc (Nat.le_refl _) _).trans (hb.mono (by omega))⟩
      rw [List.take_of_length_le (by omega)]
      rfl

set_option maxHeartbeats 2000000 in
set_option maxRecDepth 100000 in
theorem sameElements_perm (w : World) (A1 A2 : Option Addr) (n1 n2 c1 c2 : Nat) (la lb : List It) (hla : n1 = la.length) (hlb : n2 = lb.length) (hp : la.Perm lb) (hra : Rd w A1 (cls la)) (hrb : Rd w A2 (cls lb)) (hn : la.length * 16 ≤ 211106232598528) :
    Calls Try.prog 31 #[.slice A1 n1 c1, .slice A2 n2 c2] w (Gives w (.bool true)) := by
  have hnn : n2 = n1 := by rw [hla, hlb, hp.length_eq]
  subst hnn
  have hcount : ∀ x, la.count x = lb.count x := fun x => hp.count_eq x
  have HC := Lib.hid hcount
  have HLA := Lib.hid hla
  have HLB := Lib.hid hlb
  have HRA := Lib.hid hra
  have HRB := Lib.hid hrb
  have hn2 : n2 * 16 ≤ 211106232598528 := by rw [hla]; exact hn
  clear hp hcount hla hlb hra hrb hn
  go_enter Try.func31, Try.ntmps31
  go_wp2
  go_loopw [14] (fun s14 wr => ∃ (k : Nat), s14 = .int .i64 (k : Int) ∧ k ≤ n2 ∧ Below w.heap.size w wr) (fun s14 _ => n2 - (intOf s14).toNat)
  case atStart => exact ⟨0, rfl, by omega, Below.refl _ _⟩
  case round =>
    obtain ⟨k, rfl, hk, hb⟩ := hrel
    have hsz := hb.size
    by_cases hlt : k < n2
    · obtain ⟨b, o, rfl, hbb, h1, h2⟩ := (HRA.out.below hb (Nat.le_refl _)).at_ k (by rw [← HLA.out]; exact hlt)
      obtain ⟨⟨y1, y2⟩, hy⟩ : ∃ y, g la k = y := ⟨_, rfl⟩
      rw [hy] at h1 h2
      clear hy
      go_wp2_with fail
      go_region_held3 (fun w' => w'.cell? ⟨wr.heap.size, 0, none⟩ = some (.int .i64 y1) ∧ w'.cell? ⟨wr.heap.size, 1, none⟩ = some (.int .i64 y2))
        (first
          | go_keep
          | exact ⟨kb1, kb2⟩
          | exact ⟨ka1, ka2⟩)
        (first
          | (go_at_call 46
             ((with_reducible refine (countItem_any _ (some ⟨b, o, none⟩) _ c1 la (y1, y2) HLA.out ?_ ?_).mono ?_)
              · exact HRA.out.below (hb.alloc hsz _).drew (Nat.le_refl _)
              · rw [← HLA.out]; exact hn2
              rintro e w1 ⟨rfl, hb1⟩
              have ka1 : w1.cell? ⟨wr.heap.size, 0, none⟩ = some (.int .i64 y1) := by rw [hb1.cell (by simp)]; simp
              have ka2 : w1.cell? ⟨wr.heap.size, 1, none⟩ = some (.int .i64 y2) := by rw [hb1.cell (by simp)]; simp
              have hs1 : wr.heap.size < w1.heap.size := by have := hb1.size; simp at this; omega))
          | (go_at_call 46
             ((with_reducible refine (countItem_any _ A2 _ c2 lb (y1, y2) HLB.out ?_ ?_).mono ?_)
              · exact (HRB.out.below (hb.alloc hsz _).drew (Nat.le_refl _)).below hb1 (Nat.le_refl _)
              · rw [← HLB.out]; exact hn2
              rintro e w2 ⟨rfl, hb2⟩
              have kb1 : w2.cell? ⟨wr.heap.size, 0, none⟩ = some (.int .i64 y1) := (hb2.cell (p := ⟨wr.heap.size, 0, none⟩) hs1).trans ka1
              have kb2 : w2.cell? ⟨wr.heap.size, 1, none⟩ = some (.int .i64 y2) := (hb2.cell (p := ⟨wr.heap.size, 1, none⟩) hs1).trans ka2)))
      have hcc : (((la.count (y1, y2) : Nat) : Int) != ((lb.count (y1, y2) : Nat) : Int)) = false := by rw [HC.out]; simp
      have hb3 : Below w.heap.size w w2 := ((hb.alloc hsz _).drew.trans (hb1.mono (by simp; omega))).trans (hb2.mono (by omega))
      clear hb1 hb2 hb kb1 kb2 ka1 ka2
      go_wp2
      go_roundw
      case rel => exact ⟨k + 1, by go_num, by omega, hb3⟩
      case measure => simp [intOf]; omega
    · go_wp2
      go_ret
      exact ⟨rfl, hb⟩

/-- heapOrdered, for both answers. -/
theorem heapOrdered_any (w : World) (A : Option Addr) (n c : Nat) (l : List It) (b : Bool) (hl : n = l.length) (hr : Rd w A (cls l)) (hn : l.length * 16 ≤ 211106232598528) (hb : b = true ↔ Hp.HO ltK l l.length) :
    Calls Try.prog 28 #[.slice A n c] w (Gives w (.bool b)) := by
  subst hl
  go_enter Try.func28, Try.ntmps28
  have HB := Lib.hid hb
  clear hb
  go_wp2
  go_loopw [3] (fun s3 wr => ∃ (k q : Nat), s3 = .int .i64 (k : Int) ∧ 1 ≤ k ∧ k ≤ l.length + 1 ∧ wr = w.drewN q ∧ Hid (∀ j, 0 < j → j < k → j < l.length → ltK (g l j) (g l ((j - 1) / 2)) = false)) (fun s3 _ => l.length + 1 - (intOf s3).toNat)
  case atStart => exact ⟨1, 0, rfl, by omega, by omega, rfl, fun j hj hk => by omega⟩
  case round =>
    obtain ⟨k, q, rfl, hk1, hk, rfl, hok⟩ := hrel
    by_cases hlt : k < l.length
    · obtain ⟨bb, o, rfl, hbb, h1, _⟩ := hr.at_ k hlt
      obtain ⟨bb', o', hA, _, h2, _⟩ := hr.at_ ((k - 1) / 2) (by omega)
      injection hA with hA
      injection hA with hA1 hA2
      subst hA1
      subst hA2
      obtain ⟨x, hx⟩ : ∃ x, (g l k).1 = x := ⟨_, rfl⟩
      obtain ⟨y, hy⟩ : ∃ y, (g l ((k - 1) / 2)).1 = y := ⟨_, rfl⟩
      rw [hx] at h1
      rw [hy] at h2
      have HX := Lib.hid hx
      have HY := Lib.hid hy
      clear hx hy hr
      have hd : ((k : Int) - 1) / 2 = (((k - 1) / 2 : Nat) : Int) := by omega
      by_cases hxy : x < y
      · have HF : Hid (b = false) := by
          cases hbv : b with
          | false => rfl
          | true =>
            have := HB.out.1 hbv k (by omega) hlt
            rw [ltK, HX.out, HY.out] at this
            simp at this
            omega
        go_wp2_with fail
        go_quiet (fail)
        go_wp2
        go_ret
        exact ⟨by rw [HF.out]; rfl, below_drewN (below_drewN (Below.refl _ _) _) _⟩
      · have hxy' : y ≤ x := by omega
        go_wp2_with fail
        go_quiet (fail)
        go_wp2
        go_roundw
        case rel =>
          refine ⟨k + 1, q + nq, by go_num, by omega, by omega, rfl, ?_⟩
          intro j hj hjk hjl
          by_cases hjk2 : j = k
          · subst hjk2
            rw [ltK, HX.out, HY.out]
            simp
            omega
          · exact hok.out j hj (by omega) hjl
        case measure => simp [intOf]; omega
    · go_wp2
      go_ret
      have hbt : b = true := HB.out.2 fun j hj hjn => hok.out j hj (by omega) hjn
      exact ⟨by rw [hbt]; rfl, below_drewN (Below.refl _ _) _⟩

set_option maxHeartbeats 1000000 in
set_option maxRecDepth 100000 in
theorem sameItems_eq (w : World) (A1 A2 : Option Addr) (n1 n2 c1 c2 : Nat) (l : List It) (hl1 : n1 = l.length) (hl2 : n2 = l.length) (hr1 : Rd w A1 (cls l)) (hr2 : Rd w A2 (cls l)) (hn : l.length * 16 ≤ 211106232598528) :
    Calls Try.prog 18 #[.slice A1 n1 c1, .slice A2 n2 c2] w (Gives w (.bool true)) := by
  subst hl1
  subst hl2
  go_enter Try.func18, Try.ntmps18
  go_wp2
  go_loopw [13] (fun s13 wr => ∃ (k q : Nat), s13 = .int .i64 (k : Int) ∧ k ≤ l.length ∧ wr = w.drewN q) (fun s13 _ => l.length - (intOf s13).toNat)
  case atStart => exact ⟨0, 0, rfl, by omega, rfl⟩
  case round =>
    obtain ⟨k, q, rfl, hk, rfl⟩ := hrel
    by_cases hlt : k < l.length
    · obtain ⟨b, o, rfl, hbb, h1, h2⟩ := hr1.at_ k hlt
      obtain ⟨b', o', rfl, hbb', h1', h2'⟩ := hr2.at_ k hlt
      obtain ⟨⟨y1, y2⟩, hy⟩ : ∃ y, g l k = y := ⟨_, rfl⟩
      rw [hy] at h1 h2 h1' h2'
      clear hy hr1 hr2
      go_wp2_with fail
      go_quiet (fail)
      go_wp2
      go_roundw
      case rel => exact ⟨k + 1, q + nq, by go_num, by omega, rfl⟩
      case measure => simp [intOf]; omega
    · go_wp2
      go_ret
      exact ⟨rfl, below_drewN (Below.refl _ _) _⟩
end Go.Proofs.Ytadacjndepkfeaa
