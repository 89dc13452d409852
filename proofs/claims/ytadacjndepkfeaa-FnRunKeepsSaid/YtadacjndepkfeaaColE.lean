/-
  The method all of impl's type columns: the list of items. Conditions: memory holds the two rows; they are within the reach of a slice.
-/
import Derived.Test.YtadacjndepkfeaaColD
namespace Go.Proofs.Ytadacjndepkfeaa
open Go.RowKit Go.Shelf
open Hp (g swp Ev)

set_option maxHeartbeats 2000000 in
set_option maxRecDepth 100000 in
theorem columns_all {B : Nat} {w : World} {hb : Nat} {vk vt : Value} {l : List It} (h : KS B w hb vk vt (l.map Prod.fst) (l.map Prod.snd)) (hn : l.length ≤ 13194139537408) :
    Calls Try.prog 42 #[.agg #[vk, vt]] w (NewIts w l) := by
  obtain ⟨A1, c1, e1⟩ := own_slice h.ks
  obtain ⟨A2, c2, e2⟩ := own_slice h.ts
  have hat : ∀ k, k < l.length → ∃ gb tb, A1 = some ⟨gb, 0, none⟩ ∧ A2 = some ⟨tb, 0, none⟩ ∧ gb < w.heap.size ∧ tb < w.heap.size ∧ w.cell? ⟨gb, k, none⟩ = some (.int .i64 (g l k).1) ∧ w.cell? ⟨tb, k, none⟩ = some (.int .i64 (g l k).2) := by
    intro k hk
    obtain ⟨gb, c, hvk, _, hgb⟩ := row_some h.ks (by simpa using Nat.lt_of_le_of_lt (Nat.zero_le _) hk)
    obtain ⟨tb, d, hvt, _, htb⟩ := row_some h.ts (by simpa using Nat.lt_of_le_of_lt (Nat.zero_le _) hk)
    refine ⟨gb, tb, ?_, ?_, hgb, htb, h.atK hvk k hk, h.atT hvt k hk⟩
    · rw [hvk] at e1; injection e1 with e _ _; exact e.symm
    · rw [hvt] at e2; injection e2 with e _ _; exact e.symm
  subst e1
  subst e2
  rw [List.length_map, List.length_map]
  have HAT := Lib.hid hat
  clear h hat
  obtain ⟨W0, hW0⟩ : ∃ W0, W0 = w.alloc (.cells #[.slice A1 l.length c1, .slice A2 l.length c2] 63) := ⟨_, rfl⟩
  have hbx : W0.heap[w.heap.size]? = some (CB (.slice A1 l.length c1) (.slice A2 l.length c2)) := by rw [hW0]; exact heap_alloc_new _ _
  have hbw : Below w.heap.size w W0 := by rw [hW0]; exact (Below.refl _ _).alloc (Nat.le_refl _) _
  have hsw : W0.heap.size = w.heap.size + 1 := by rw [hW0]; exact heap_size_alloc _ _
  have HBX := Lib.hid hbx
  have HBW := Lib.hid hbw
  have HSW := Lib.hid hsw
  have k0 := (CB.cells hbx).1
  clear hbx hbw
  go_enter Try.func42, Try.ntmps42
  go_wp2_with fail
  rw [← hW0]
  clear hW0
  go_wp2_with fail
  go_loopw [3, 8] (fun s3 s8 wr => ∃ (k : Nat) (A' : Option Addr) (c' : Nat), s8 = .int .i64 (k : Int) ∧ k ≤ l.length ∧ s3 = .slice A' k c' ∧ Aside (wr.ownsRow W0.heap.size 36 2 (.slice A' k c') k (cls (l.take k))) ∧ Below W0.heap.size W0 wr)
    (fun _ s8 _ => l.length - (intOf s8).toNat)
  case atStart => exact ⟨0, none, 0, rfl, by omega, rfl, World.ownsRow_nil _ _ _ _, Below.refl _ _⟩
  case round =>
    obtain ⟨k, A', c', rfl, hk, rfl, hown, hb⟩ := hrel
    have hsz := hb.size
    by_cases hlt : k < l.length
    · obtain ⟨gb, tb, e1, e2, hgb, htb, ck, ct⟩ := HAT.out k hlt
      subst e1
      subst e2
      have hbx1 : wr.heap[w.heap.size]? = some (CB (.slice (some ⟨gb, 0, none⟩) l.length c1) (.slice (some ⟨tb, 0, none⟩) l.length c2)) := by rw [hb.block _ (by omega)]; exact HBX.out
      have b0 := (CB.cells hbx1).1
      have b1 := (CB.cells hbx1).2.1
      have d1 : wr.cell? ⟨gb, k, none⟩ = _ := (World.cell?_of_block ((hb.block gb (by omega)).trans (HBW.out.block gb hgb))).trans ck
      have d2 : wr.cell? ⟨tb, k, none⟩ = _ := (World.cell?_of_block ((hb.block tb (by omega)).trans (HBW.out.block tb htb))).trans ct
      have htk := take_succ_g l k hlt
      obtain ⟨⟨x, y⟩, hx⟩ : ∃ x, g l k = x := ⟨_, rfl⟩
      rw [hx] at d1 d2 htk
      have HTK := Lib.hid htk
      obtain ⟨L, hL⟩ : ∃ L, L = l.take k := ⟨_, rfl⟩
      have hLl : k = L.length := by rw [hL]; simp; omega
      have hE : L ++ [(x, y)] = l.take (k + 1) := by rw [HTK.out, hL]
      have how := hown.out
      rw [← hL, hLl] at how
      have HOW := Lib.hid how
      have HLL := Lib.hid hLl
      have HE := Lib.hid hE
      have HLE := Lib.hid (show (L.length + 1) * 16 ≤ 211106232598528 from m16 (by rw [← hLl]; omega))
      have HLT := Lib.hid (fun kk hkk => (hown.out.lt kk hkk).1)
      clear hx htk hL hLl hE how ck ct hbx1 hown k0
      go_wp2_with fail
      go_region_law
        (first
          | (refine wanted_plain rfl (wp_append_item_at (.tmp 11) (.tmp 23) rfl (.slice A' L.length c') W0.heap.size L (x, y) wr.heap.size (by simp [Act.eval, ← HLL.out]) (by simp [Act.eval]) ?_ ?_ ?_ ?_ ?_)
             · exact HOW.out.drew.alloc _
             · exact heap_alloc_new _ _
             · exact HLE.out
             · simp; omega
             intro A4 c4 w4 ho4 hg4 hl4
             have HO4 := Lib.hid ho4
             have HB4 := Lib.hid ((hb.drew.alloc (by simp; omega) _).grown hg4 (by simp; omega) (fun kk hkk => HLT.out kk (by rw [HLL.out]; exact hkk)))
             clear ho4 hg4 hl4))
      all_goals
        rw [HE.out, ← HLL.out] at HO4
        rw [← HLL.out]
        clear hb b0 b1 d1 d2
        go_wp2
        go_roundw
        case rel => exact ⟨k + 1, A4, c4, by go_num, by omega, rfl, HO4.out, HB4.out⟩
        case measure => simp [intOf]; omega
    · go_wp2
      go_ret
      have hkl : k = l.length := by omega
      have ho := hown.out
      rw [hkl, List.take_of_length_le (Nat.le_refl _)] at ho
      exact ⟨A', c', by rw [hkl]; rfl, own_base ho HBW.out.size, HBW.out.trans (hb.mono HBW.out.size)⟩
end Go.Proofs.Ytadacjndepkfeaa
