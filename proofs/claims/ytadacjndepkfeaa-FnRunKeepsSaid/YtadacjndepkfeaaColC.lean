/-
  impl's type columns: its method Push, walked. Conditions: memory holds the two rows; they stay within what append can bear.
-/
import Derived.Test.YtadacjndepkfeaaColB
namespace Go.Proofs.Ytadacjndepkfeaa
open Go.RowKit Go.Shelf
open Hp (g swp Ev)

theorem run_field_key (W : World) (x y : Int) : (Instr.field 36 (.agg #[.int .i64 x, .int .i64 y]) 0).run Try.prog W = .ok (.int .i64 x) W := by kernel_rfl
theorem run_field_tag (W : World) (x y : Int) : (Instr.field 36 (.agg #[.int .i64 x, .int .i64 y]) 1).run Try.prog W = .ok (.int .i64 y) W := by kernel_rfl

set_option maxHeartbeats 2000000 in
set_option maxRecDepth 100000 in
theorem columns_push {B : Nat} {w : World} {hb : Nat} {vk vt : Value} {K T : List Int} (h : KS B w hb vk vt K T) (x : It) (hn : K.length + 1 ≤ 26388279066624) (hn2 : T.length + 1 ≤ 26388279066624) :
    Calls Try.prog 72 #[.pointer (some ⟨hb, 0, none⟩), encI x] w fun e w' => e = .returned (.tuple #[]) ∧
      ∃ vk' vt', KS B w' hb vk' vt' (K ++ [x.1]) (T ++ [x.2]) ∧ Frm (KX hb vk vt) w w' ∧ Lies w vk vk' ∧ Lies w vt vt' := by
  obtain ⟨x1, x2⟩ := x
  have hlt := h.lt
  obtain ⟨A1, c1, rfl⟩ := own_slice h.ks
  obtain ⟨A2, c2, rfl⟩ := own_slice h.ts
  have k0 := (CB.cells h.box).1
  have H := Lib.hid h
  have hlo := h.low
  obtain ⟨m, hm⟩ : ∃ m, m = K.length := ⟨_, rfl⟩
  obtain ⟨m2, hm2⟩ : ∃ m2, m2 = T.length := ⟨_, rfl⟩
  rw [← hm] at k0
  have HM := Lib.hid hm
  have HM2 := Lib.hid hm2
  have hta := run_assert_item
  have hfk := run_field_key
  have hft := run_field_tag
  clear h hm hm2
  unfold encI
  go_enter Try.func72, Try.ntmps72
  go_wp2
  go_region_law
    (first
      | (refine wanted_plain rfl (wp_append_intC (.tmp 8) (.tmp 12) rfl (.slice A1 K.length c1) B K x1 w.heap.size (by simp [Act.eval, HM.out]) (by simp [Act.eval]) ?_ ?_ ?_ ?_ ?_)
         · exact (H.out.ks.drew.alloc _)
         · exact heap_alloc_new _ _
         · exact hn
         · simp; omega
         intro A3 c3 w3 ho3 hg3 hl3
         obtain ⟨hm3, hS3, hF3, hL3⟩ := H.out.pushK ((Below.refl _ _).drew.alloc (Nat.le_refl _) _) ho3 hg3 hl3
         have HS3 := Lib.hid hS3
         have HF3 := Lib.hid hF3
         have HL3 := Lib.hid hL3
         have k3 : w3.cell? ⟨hb, 0, none⟩ = some (.slice A1 m c1) := by rw [(CB.cells hm3).1, HM.out]
         have f3 : w3.frozen? ⟨hb, 0, none⟩ = false := (CB.cells hm3).2.2 0
         clear ho3 hg3 hl3 hS3 hF3 hL3 hm3))
  all_goals
    obtain ⟨W, hW⟩ : ∃ W, W = w3.setCell ⟨hb, 0, none⟩ (.slice A3 (K.length + 1) c3) := ⟨_, rfl⟩
    rw [← hW] at HS3 HF3 ⊢
    have j1 := (CB.cells HS3.out.box).2.1
    rw [← HM2.out] at j1
    have hlo1 := HS3.out.low
    have hlt1 := HS3.out.lt
    clear hW k3 f3 k0
    go_wp2
    go_region_law
      (first
        | (refine wanted_plain rfl (wp_append_intC (.tmp 20) (.tmp 24) rfl (.slice A2 T.length c2) B T x2 W.heap.size (by simp [Act.eval, HM2.out]) (by simp [Act.eval]) ?_ ?_ ?_ ?_ ?_)
           · exact (HS3.out.ts.drew.alloc _)
           · exact heap_alloc_new _ _
           · exact hn2
           · simp; omega
           intro A4 c4 w4 ho4 hg4 hl4
           obtain ⟨hm4, hS4, hF4, hL4⟩ := HS3.out.pushT ((Below.refl _ _).drew.alloc (Nat.le_refl _) _) ho4 hg4 hl4
           have HS4 := Lib.hid hS4
           have HF4 := Lib.hid hF4
           have HL4 := Lib.hid hL4
           have k4 : w4.cell? ⟨hb, 1, none⟩ = some (.slice A2 m2 c2) := by rw [(CB.cells hm4).2.1, HM2.out]
           have f4 : w4.frozen? ⟨hb, 1, none⟩ = false := (CB.cells hm4).2.2 1
           clear ho4 hg4 hl4 hS4 hF4 hL4 hm4))
    all_goals
      go_end0
      exact ⟨rfl, _, _, HS4.out, KX.next HF3.out HF4.out HL3.out (Lies.refl _ _), HL3.out, fun k hk => (HL4.out k hk).imp id (Nat.le_trans HF3.out.size)⟩
end Go.Proofs.Ytadacjndepkfeaa
