/-
  impl's type watched, called through heap.Interface by its address: its methods keep a list of items and note their calls. Condition: memory holds both (RW).
-/
import Derived.Test.YtfmfndpeiffehaaItemsPop
import Derived.Test.YtfmfndpeiffehaaReaders
import Derived.Deep.RegionLaw
namespace Go.Proofs.Ytfmfndpeiffehaa
open Go.RowKit Go.Shelf
open Hp (g swp Ev)

def ce (e : Ev) : List Value := [.int .i64 e.1, .int .i64 e.2.1, .int .i64 e.2.2.1, .int .i64 e.2.2.2]
def ces (tr : List Ev) : List Value := tr.flatMap ce

theorem length_ces (tr : List Ev) : (ces tr).length = tr.length * 4 := by
  induction tr with
  | nil => rfl
  | cons x l ih => simp only [ces, List.flatMap_cons, List.length_append, List.length_cons] at *; simp [ce] at *; omega
theorem ces_append (l r : List Ev) : ces (l ++ r) = ces l ++ ces r := by simp [ces]

theorem info_call : (Try.prog.info? 51).map (fun i => (i.zero, i.size, i.bytes)) = some (some (.agg #[.int .i64 0, .int .i64 0, .int .i64 0, .int .i64 0]), 4, 32) := by kernel_rfl

/-- append of one call onto an own slice. -/
theorem run_append_call {w : World} {B : Nat} {u : Value} {tr : List Ev} (ho : w.ownsRow B 51 4 u tr.length (ces tr)) (e : Ev) (gs : Nat)
    (hg : w.heap[gs]? = some (.cells #[.int .i64 e.1, .int .i64 e.2.1, .int .i64 e.2.2.1, .int .i64 e.2.2.2] 51 (0, 0)))
    (hn : (tr.length + 1) * 32 ≤ 140737488355328) (hB : B ≤ w.heap.size) (ty : TypeId) :
    ∃ A' c' w', (Builtin.append_ #[24, 24] ty #[u, .slice (some ⟨gs, 0, none⟩) 1 1]).run Try.prog w = .ok (.slice A' (tr.length + 1) c') w' ∧
      w'.ownsRow B 51 4 (.slice A' (tr.length + 1) c') (tr.length + 1) (ces (tr ++ [e])) ∧ w.grownBy w' u.ownBlock := by
  obtain ⟨i0, hi, hz0, hz1, hz2⟩ := info_parts info_call
  obtain ⟨v', w', hr, h2, h3, _⟩ := run_append_own (P := Try.prog) w B 24 ty 51 i0 _ 4 32 Try.underlying24 hi hz0 hz1 hz2 rfl (by decide) u tr.length (ces tr) ho
    ⟨gs, 0, none⟩ 1 1 [.int .i64 e.1, .int .i64 e.2.1, .int .i64 e.2.2.1, .int .i64 e.2.2.2] rfl (World.news_of_block (cs := #[.int .i64 e.1, .int .i64 e.2.1, .int .i64 e.2.2.1, .int .i64 e.2.2.2]) (t := 51) (fr := (0, 0)) hg) (by simp [Value.oneCell']) (by simp only [maxLen]; omega) (by omega) hB
  obtain ⟨A', c', rfl⟩ := own_slice h2
  exact ⟨A', c', w', hr, by rw [ces_append]; exact h2, h3⟩
theorem wp_append_call {w : World} {o : Oper} {a : Act} {K : Act → World → Prop} {Q : Exit → Act → World → Prop} (s x : Operand)
    (ho : o.op = .call { callee := .builtin .append, args := #[s, x], argTypes := #[24, 24] }) (u : Value) (B : Nat) (tr : List Ev) (e : Ev) (gs : Nat) (hs : a.eval s = u) (hx : a.eval x = .slice (some ⟨gs, 0, none⟩) 1 1)
    (hown : w.ownsRow B 51 4 u tr.length (ces tr)) (hg : w.heap[gs]? = some (.cells #[.int .i64 e.1, .int .i64 e.2.1, .int .i64 e.2.2.1, .int .i64 e.2.2.2] 51 (0, 0)))
    (hn : (tr.length + 1) * 32 ≤ 140737488355328) (hB : B ≤ w.heap.size)
    (h : ∀ A' c' w', w'.ownsRow B 51 4 (.slice A' (tr.length + 1) c') (tr.length + 1) (ces (tr ++ [e])) → w.grownBy w' u.ownBlock → K (a.put o.dst (.slice A' (tr.length + 1) c')) w') : o.wp Try.prog a w K Q := by
  obtain ⟨A', c', w', hrun, h1, h2⟩ := run_append_call hown e gs hg hn hB o.type
  exact wp_append_run s x _ ho _ _ _ _ hs hx hrun (h A' c' w' h1 h2)
theorem wanted_plain' {ops : Array Oper} {o : Oper} {a : Act} {X E : Prop} (hgd : o.guard = none) (h : X) : if Region.wanted o (yielded ops a.tmps) = true then X else E := by
  rw [if_pos (by simp [Region.wanted, hgd])]
  exact h

/-- What memory holds of a watched heap whose variable is block hb. -/
structure WB (B hb : Nat) (v u : Value) (l : List It) (tr : List Ev) (w : World) : Prop where
  blk : w.heap[hb]? = some (.cells #[v, u] 54 (0, 0))
  its : w.ownsRow B 35 2 v l.length (cls l)
  cas : w.ownsRow B 51 4 u tr.length (ces tr)
  low : B ≤ hb

theorem own_own_ne {w : World} {B B' : Nat} {e e' : TypeId} {s s' : Nat} {v v' : Value} {n n' : Nat} {xs xs' : List Value} (h : w.ownsRow B e s v n xs) (h' : w.ownsRow B' e' s' v' n' xs') (hne : e ≠ e') : v.ownBlock = none ∨ v.ownBlock ≠ v'.ownBlock := by
  rcases h.2 with ⟨rfl, _⟩ | ⟨g1, c1, cur1, rfl, _, hh, _⟩
  · left; rfl
  · right
    intro he
    rcases h'.2 with ⟨rfl, _⟩ | ⟨g2, c2, cur2, rfl, _, hh', _⟩
    · simp [Value.ownBlock] at he
    · have : g1 = g2 := by simpa [Value.ownBlock] using he
      subst this
      rw [hh] at hh'
      injection hh' with hh'
      injection hh' with _ ht
      exact hne ht

theorem WB.mid {B hb : Nat} {v u : Value} {l : List It} {tr : List Ev} {w w1 : World} (h : WB B hb v u l tr w) (o : Obj) (hg : (w.drew.alloc o).grownBy w1 u.ownBlock) : w1.heap[hb]? = some (.cells #[v, u] 54 (0, 0)) := by
  have hlt := lt_of_block h.blk
  have hne := own_ne h.cas h.blk (by decide)
  rw [hg.block hb (by simp; omega) (Ne.symm hne)]
  exact (Below.heap_alloc w.drew o hb hlt).trans h.blk

theorem WB.note {B hb : Nat} {v u : Value} {l : List It} {tr : List Ev} {w w1 : World} (h : WB B hb v u l tr w) (e : Ev) (o : Obj) (u' : Value) (ho : w1.ownsRow B 51 4 u' (tr.length + 1) (ces (tr ++ [e]))) (hg : (w.drew.alloc o).grownBy w1 u.ownBlock) :
    WB B hb v u' l (tr ++ [e]) (w1.setCell ⟨hb, 1, none⟩ u') ∧ Below B w (w1.setCell ⟨hb, 1, none⟩ u') := by
  have hlt := lt_of_block h.blk
  have hbk := h.mid o hg
  have hvo : w1.ownsRow B 35 2 v l.length (cls l) := (h.its.drew.alloc o).kept hg (own_own_ne h.its h.cas (by decide))
  refine ⟨⟨?_, ?_, ?_, h.low⟩, ?_⟩
  · have hlt1 := lt_of_block hbk
    have h' : w1.heap[hb] = .cells #[v, u] 54 (0, 0) := by simpa [Array.getElem?_eq_getElem hlt1] using hbk
    show (w1.heap.modify hb _)[hb]? = _
    rw [Array.getElem?_eq_getElem (by simpa using hlt1), Array.getElem_modify_self, h']
    rfl
  · exact ownsRow_setCell_other hvo (own_ne hvo hbk (by decide)) _
  · rw [List.length_append]
    exact ownsRow_setCell_other (a := ⟨hb, 1, none⟩) ho (own_ne ho hbk (by decide)) _
  · exact (((Below.refl B w).drew.alloc (show B ≤ w.heap.size from Nat.le_trans h.low (Nat.le_of_lt hlt)) o).grown hg (by have := h.low; simp; omega) (fun k hk => (h.cas.lt k hk).1)).setCell h.low _

set_option maxHeartbeats 2000000 in
set_option maxRecDepth 100000 in
theorem watched_less {B hb : Nat} {v u : Value} {l : List It} {tr : List Ev} {w : World} (h : WB B hb v u l tr w) (i j : Nat) (hi : i < l.length) (hj : j < l.length) (ht : (tr.length + 1) * 32 ≤ 140737488355328) :
    Calls Try.prog 62 #[.pointer (some ⟨hb, 0, none⟩), .int .i64 (i : Int), .int .i64 (j : Int)] w fun e w' => e = .returned (.bool (ltK (g l i) (g l j))) ∧
      ∃ u', WB B hb v u' l (tr ++ [((1 : Int), (l.length : Int), (i : Int), (j : Int))]) w' ∧ Below B w w' := by
  have hlt := lt_of_block h.blk
  obtain ⟨A1, c1, rfl⟩ := own_slice h.its
  obtain ⟨A2, c2, rfl⟩ := own_slice h.cas
  have k0 : w.cell? ⟨hb, 0, none⟩ = some (.slice A1 l.length c1) := by simp [World.cell?, h.blk]
  have k1 : w.cell? ⟨hb, 1, none⟩ = some (.slice A2 tr.length c2) := by simp [World.cell?, h.blk]
  have H := Lib.hid h
  obtain ⟨m, hm⟩ : ∃ m, m = tr.length := ⟨_, rfl⟩
  rw [← hm] at k1
  have HM := Lib.hid hm
  clear h hm
  go_enter Try.func62, Try.ntmps62
  go_wp2
  go_region_law
    (first
      | (refine wanted_plain' rfl (wp_append_call (.tmp 11) (.tmp 20) rfl (.slice A2 tr.length c2) B tr ((1 : Int), (l.length : Int), (i : Int), (j : Int)) w.heap.size (by simp [Act.eval, HM.out]) (by simp [Act.eval]) ?_ ?_ ?_ ?_ ?_)
         · exact (H.out.cas.drew.alloc _)
         · exact heap_alloc_new _ _
         · exact ht
         · have := H.out.low; simp; omega
         intro A3 c3 w3 ho3 hg3
         obtain ⟨hW3, hB3⟩ := H.out.note _ _ _ ho3 hg3
         have hm3 := H.out.mid _ hg3
         have k3 : w3.cell? ⟨hb, 1, none⟩ = some (.slice A2 m c2) := by simp [World.cell?, hm3, HM.out]
         have f3 : w3.frozen? ⟨hb, 1, none⟩ = false := by simp [World.frozen?, hm3]))
  all_goals
    obtain ⟨W, hW⟩ : ∃ W, W = w3.setCell ⟨hb, 1, none⟩ (.slice A3 (tr.length + 1) c3) := ⟨_, rfl⟩
    rw [← hW] at hW3 hB3 ⊢
    have kW : W.cell? ⟨hb, 0, none⟩ = some (.slice A1 l.length c1) := by simp [World.cell?, hW3.blk]
    have HL := Lib.hid (items_less_own hW3.its i j hi hj)
    have HW := Lib.hid hW3
    have HB := Lib.hid hB3
    clear hW hW3 hB3 ho3 hg3 hm3 k3 f3 k0 k1
    go_wp2_with (go_at_call 60; refine HL.out.mono ?_; rintro e w4 ⟨rfl, q, rfl⟩)
    go_ret
    exact ⟨rfl, _, ⟨HW.out.blk, HW.out.its, HW.out.cas, HW.out.low⟩, below_drewN HB.out q⟩

set_option maxHeartbeats 2000000 in
set_option maxRecDepth 100000 in
theorem watched_swap {B hb : Nat} {v u : Value} {l : List It} {tr : List Ev} {w : World} (h : WB B hb v u l tr w) (i j : Nat) (hi : i < l.length) (hj : j < l.length) (ht : (tr.length + 1) * 32 ≤ 140737488355328) :
    Calls Try.prog 65 #[.pointer (some ⟨hb, 0, none⟩), .int .i64 (i : Int), .int .i64 (j : Int)] w fun e w' => e = .returned (.tuple #[]) ∧
      ∃ u', WB B hb v u' (swp l i j) (tr ++ [((2 : Int), (l.length : Int), (i : Int), (j : Int))]) w' ∧ Below B w w' := by
  have hlt := lt_of_block h.blk
  obtain ⟨A1, c1, rfl⟩ := own_slice h.its
  obtain ⟨A2, c2, rfl⟩ := own_slice h.cas
  have k0 : w.cell? ⟨hb, 0, none⟩ = some (.slice A1 l.length c1) := by simp [World.cell?, h.blk]
  have k1 : w.cell? ⟨hb, 1, none⟩ = some (.slice A2 tr.length c2) := by simp [World.cell?, h.blk]
  have H := Lib.hid h
  obtain ⟨m, hm⟩ : ∃ m, m = tr.length := ⟨_, rfl⟩
  rw [← hm] at k1
  have HM := Lib.hid hm
  clear h hm
  go_enter Try.func65, Try.ntmps65
  go_wp2
  go_region_law
    (first
      | (refine wanted_plain' rfl (wp_append_call (.tmp 10) (.tmp 19) rfl (.slice A2 tr.length c2) B tr ((2 : Int), (l.length : Int), (i : Int), (j : Int)) w.heap.size (by simp [Act.eval, HM.out]) (by simp [Act.eval]) ?_ ?_ ?_ ?_ ?_)
         · exact (H.out.cas.drew.alloc _)
         · exact heap_alloc_new _ _
         · exact ht
         · have := H.out.low; simp; omega
         intro A3 c3 w3 ho3 hg3
         obtain ⟨hW3, hB3⟩ := H.out.note _ _ _ ho3 hg3
         have hm3 := H.out.mid _ hg3
         have k3 : w3.cell? ⟨hb, 1, none⟩ = some (.slice A2 m c2) := by simp [World.cell?, hm3, HM.out]
         have f3 : w3.frozen? ⟨hb, 1, none⟩ = false := by simp [World.frozen?, hm3]))
  all_goals
    obtain ⟨W, hW⟩ : ∃ W, W = w3.setCell ⟨hb, 1, none⟩ (.slice A3 (tr.length + 1) c3) := ⟨_, rfl⟩
    rw [← hW] at hW3 hB3 ⊢
    have kW : W.cell? ⟨hb, 0, none⟩ = some (.slice A1 l.length c1) := by simp [World.cell?, hW3.blk]
    have HL := Lib.hid (items_swap_own hW3.its i j hi hj)
    have HW := Lib.hid hW3
    have HB := Lib.hid hB3
    clear hW hW3 hB3 ho3 hg3 hm3 k3 f3 k0 k1
    go_wp2_with (go_at_call 61; refine HL.out.mono ?_; rintro e w4 ⟨rfl, ho4, hg4⟩)
    go_end0
    have hne := own_ne HW.out.its HW.out.blk (by decide)
    have hlw := lt_of_block HW.out.blk
    refine ⟨rfl, _, ⟨?_, ho4, HW.out.cas.kept hg4 (own_own_ne HW.out.cas HW.out.its (by decide)), HW.out.low⟩, HB.out.grown hg4 (Nat.le_trans HW.out.low (Nat.le_of_lt hlw)) (fun k hk => (HW.out.its.lt k hk).1)⟩
    rw [hg4.block hb hlw (Ne.symm hne)]
    exact HW.out.blk

/-- The watched heap whose variable lies in block hb; below block B memory is as w0 has it. -/
structure RW (B : Nat) (w0 : World) (hb N : Nat) (l : List It) (tr : List Ev) (w : World) : Prop where
  own : ∃ v u, WB B hb v u l tr w
  below : Below B w0 w
  size : l.length ≤ N
  few : N < 4611686018427387904

theorem mwLen : (Try.prog.info? 56).bind (fun i => (i.methods.find? (·.name == "Len")).map (fun m => (m.path, m.func))) = some (#[{ struct := 54, index := 0, deref := true }], some (59, false)) := by kernel_rfl
theorem mwLess : (Try.prog.info? 56).bind (fun i => (i.methods.find? (·.name == "Less")).map (fun m => (m.path, m.func))) = some (#[], some (62, true)) := by kernel_rfl
theorem mwSwap : (Try.prog.info? 56).bind (fun i => (i.methods.find? (·.name == "Swap")).map (fun m => (m.path, m.func))) = some (#[], some (65, true)) := by kernel_rfl
theorem mw_place (w : World) (hb : Nat) (fd : Field) (ht : fd.type = 52) (ho : fd.offset = 0) : (fieldPlace ⟨hb, 0, none⟩ fd).run Try.prog w = .ok ⟨hb, 0, none⟩ w := by
  have hs : (Try.prog.info? 52).map (·.size) = some 1 := by kernel_rfl
  obtain ⟨i, hi, h1⟩ := Option.map_eq_some_iff.1 hs
  simp [fieldPlace, sizeOf, typeInfo, ht, hi, h1, ho, Addr.add]

theorem watched_HI (B : Nat) (w0 : World) (hb N : Nat) {M : Nat} (hM : M * 32 ≤ 140737488355328) : HI 56 (.pointer (some ⟨hb, 0, none⟩)) ltK M (RW B w0 hb N) where
  small := fun l tr w h => Nat.lt_of_le_of_lt h.size h.few
  len := fun l tr w h => by
    obtain ⟨v, u, hw⟩ := h.own
    obtain ⟨A, c, rfl⟩ := own_slice hw.its
    have hk : w.cell? ⟨hb, 0, none⟩ = some (.slice A l.length c) := by simp [World.cell?, hw.blk]
    refine ⟨59, .slice A l.length c, run_method_emb _ mwLen rfl Try.underlying54 rfl (mw_place w hb _ rfl rfl) Try.underlying52 (run_loadVar_slice Try.underlying52 hk), enters_of Try.func59 (by kernel_rfl) rfl, (items_len w A _ c).mono ?_⟩
    rintro e w' ⟨rfl, rfl⟩
    exact ⟨rfl, h⟩
  less := fun l tr w i j h hi hj hm => by
    obtain ⟨v, u, hw⟩ := h.own
    refine ⟨62, _, run_method_ptr _ mwLess Try.underlying56, enters_of Try.func62 (by kernel_rfl) rfl, (watched_less hw i j hi hj (by omega)).mono ?_⟩
    rintro e w' ⟨rfl, u', hw', hb'⟩
    exact ⟨rfl, ⟨_, _, hw'⟩, h.below.trans hb', h.size, h.few⟩
  swap := fun l tr w i j h hi hj hm => by
    obtain ⟨v, u, hw⟩ := h.own
    refine ⟨65, _, run_method_ptr _ mwSwap Try.underlying56, enters_of Try.func65 (by kernel_rfl) rfl, (watched_swap hw i j hi hj (by omega)).mono ?_⟩
    rintro e w' ⟨rfl, u', hw', hb'⟩
    exact ⟨rfl, ⟨_, _, hw'⟩, h.below.trans hb', by rw [Hp.length_swp]; exact h.size, h.few⟩
end Go.Proofs.Ytfmfndpeiffehaa
