/-
  impl's type watched: its method Pop takes the last item away and notes the call. Condition: memory holds both lists (RW).
-/
import Derived.Test.YtfmfndpeiffehaaWatched
namespace Go.Proofs.Ytfmfndpeiffehaa
open Go.RowKit Go.Shelf
open Hp (g swp Ev)

theorem run_field_key (W : World) (x y : Int) : (Instr.field 35 (.agg #[.int .i64 x, .int .i64 y]) 0).run Try.prog W = .ok (.int .i64 x) W := by kernel_rfl
theorem run_field_tag (W : World) (x y : Int) : (Instr.field 35 (.agg #[.int .i64 x, .int .i64 y]) 1).run Try.prog W = .ok (.int .i64 y) W := by kernel_rfl

set_option maxHeartbeats 2000000 in
set_option maxRecDepth 100000 in
theorem watched_pop {B hb : Nat} {v u : Value} {l : List It} {tr : List Ev} {w : World} (h : WB B hb v u l tr w) (hl : 0 < l.length) (hs : l.length < 4611686018427387904) (ht : (tr.length + 1) * 32 ≤ 140737488355328) :
    Calls Try.prog 63 #[.pointer (some ⟨hb, 0, none⟩)] w fun e w' => e = .returned (encI (g l (l.length - 1))) ∧
      ∃ v' u', WB B hb v' u' l.dropLast (tr ++ [((4 : Int), (l.length : Int), (g l (l.length - 1)).1, (g l (l.length - 1)).2)]) w' ∧ Below B w w' := by
  have hlt := lt_of_block h.blk
  have hne := own_ne h.its h.blk (by decide)
  obtain ⟨A1, c1, rfl⟩ := own_slice h.its
  obtain ⟨A2, c2, rfl⟩ := own_slice h.cas
  have k0 : w.cell? ⟨hb, 0, none⟩ = some (.slice A1 l.length c1) := by simp [World.cell?, h.blk]
  have f0 : w.frozen? ⟨hb, 0, none⟩ = false := by simp [World.frozen?, h.blk]
  have hp := items_pop_own k0 f0 hne h.its hl hs
  have hpop : ∀ (x : It), g l (l.length - 1) = x → Calls Try.prog 66 #[.pointer (some ⟨hb, 0, none⟩)] w fun e w' => e = .returned (encI x) ∧
      w.heap.size ≤ w'.heap.size ∧ Below B w w' ∧ ∃ v', WB B hb v' (.slice A2 tr.length c2) l.dropLast tr w' := by
    rintro x rfl
    refine hp.mono ?_
    rintro e w' ⟨rfl, v', hv', rfl, ho'⟩
    refine ⟨rfl, by simp [World.setCell], ((Below.refl _ _).setCell h.low _).alloc (by simp [World.setCell]; have := h.low; omega) _, v', ?_, ho', ?_, h.low⟩
    · rw [Below.heap_alloc _ _ _ (by simpa [World.setCell] using hlt)]
      have h' : w.heap[hb] = .cells #[.slice A1 l.length c1, .slice A2 tr.length c2] 54 (0, 0) := by simpa [Array.getElem?_eq_getElem hlt] using h.blk
      show (w.heap.modify hb _)[hb]? = _
      rw [Array.getElem?_eq_getElem (by simpa using hlt), Array.getElem_modify_self, h']
      rfl
    · exact (ownsRow_setCell_other (a := ⟨hb, 0, none⟩) h.cas (own_ne h.cas h.blk (by decide)) _).alloc _
  have HPOP := Lib.hid hpop
  have hta := run_assert_item
  have hfk := run_field_key
  have hft := run_field_tag
  obtain ⟨⟨x1, x2⟩, hx⟩ : ∃ x, g l (l.length - 1) = x := ⟨_, rfl⟩
  rw [hx]
  have HX := Lib.hid hx
  obtain ⟨m, hm⟩ : ∃ m, m = tr.length := ⟨_, rfl⟩
  have HM := Lib.hid hm
  clear h hx hm hp hpop f0 hne
  go_enter Try.func63, Try.ntmps63
  go_wp2_with fail
  refine (HPOP.out _ HX.out).mono ?_
  unfold encI
  rintro e w1 ⟨rfl, hz1, hb1, v1, h1⟩
  have H := Lib.hid h1
  have k1 : w1.cell? ⟨hb, 1, none⟩ = some (.slice A2 m c2) := by simp [World.cell?, h1.blk, HM.out]
  have HB1 := Lib.hid hb1
  have hlt1 := lt_of_block h1.blk
  clear h1 k0 hb1
  go_wp2
  go_region_law
    (first
      | (refine wanted_plain' rfl (wp_append_call (.tmp 18) (.tmp 27) rfl (.slice A2 tr.length c2) B tr ((4 : Int), (l.length : Int), x1, x2) w1.heap.size (by simp [Act.eval, HM.out]) (by simp [Act.eval]) ?_ ?_ ?_ ?_ ?_)
         · exact (H.out.cas.drew.alloc _)
         · exact heap_alloc_new _ _
         · exact ht
         · have := H.out.low; simp; omega
         intro A3 c3 w3 ho3 hg3
         obtain ⟨hW3, hB3⟩ := H.out.note _ _ _ ho3 hg3
         have hm3 := H.out.mid _ hg3
         have k3 : w3.cell? ⟨hb, 1, none⟩ = some (.slice A2 m c2) := by simp [World.cell?, hm3, HM.out]
         have f3 : w3.frozen? ⟨hb, 1, none⟩ = false := by simp [World.frozen?, hm3]))
  all_goals
    obtain ⟨W, hW⟩ : ∃ W, W = w3.setCell ⟨hb, 1, none⟩ (.slice A3 (tr.length + 1) c3) := ⟨_, rfl⟩
    rw [← hW] at hW3 hB3 ⊢
    have HW := Lib.hid hW3
    have HB := Lib.hid hB3
    clear hW hW3 hB3 ho3 hg3 hm3 k3 f3 k1
    go_wp2
    go_ret
    exact ⟨rfl, _, _, ⟨HW.out.blk, HW.out.its, HW.out.cas, HW.out.low⟩, HB1.out.trans HB.out⟩

theorem mwPop : (Try.prog.info? 56).bind (fun i => (i.methods.find? (·.name == "Pop")).map (fun m => (m.path, m.func))) = some (#[], some (63, true)) := by kernel_rfl

theorem watched_HPop (B : Nat) (w0 : World) (hb N : Nat) {M : Nat} (hM : M * 32 ≤ 140737488355328) : HPop 56 (.pointer (some ⟨hb, 0, none⟩)) encI evI M (RW B w0 hb N) where
  pop := fun l tr w h hl hm => by
    obtain ⟨v, u, hw⟩ := h.own
    refine ⟨63, _, run_method_ptr _ mwPop Try.underlying56, enters_of Try.func63 (by kernel_rfl) rfl,
      (watched_pop hw hl (Nat.lt_of_le_of_lt h.size h.few) (by omega)).mono ?_⟩
    rintro e w' ⟨rfl, v', u', hw', hb'⟩
    exact ⟨rfl, ⟨_, _, hw'⟩, h.below.trans hb', by rw [List.length_dropLast]; have := h.size; omega, h.few⟩
end Go.Proofs.Ytfmfndpeiffehaa
