/-
  impl's type ints, called through heap.Interface by its address: its methods keep a list of numbers, and leave alone all blocks but the variable's and the list's own. Condition: memory holds the list (RN); where the list grows: it stays within what append can bear.
-/
import Derived.Test.YtjojlnmcifkenaaNums
import Derived.Test.YtjojlnmcifkenaaHeapPush
import Derived.Test.YtjojlnmcifkenaaPlainI
namespace Go.Proofs.Ytjojlnmcifkenaa
open Go.RowKit Go.Shelf
open Hp (g swp Ev)

abbrev ltI := Hp.ltZ
/-- A number as an interface value. -/
def encN (x : Int) : Value := .iface 3 (.int .i64 x)
def evN (x : Int) : Int × Int := (x, 0)
theorem run_assert_int (W : World) (x : Int) : (Instr.typeAssert (.iface 3 (.int .i64 x)) 20 3 false).run Try.prog W = .ok (.int .i64 x) W := by kernel_rfl

set_option maxHeartbeats 1000000 in
theorem ints_len (w : World) (A : Option Addr) (n c : Nat) :
    Calls Try.prog 57 #[.slice A n c] w fun e w' => e = .returned (.int .i64 n) ∧ w' = w := by
  go_enter Try.func57, Try.ntmps57
  go_wp2
  go_ret
  exact ⟨rfl, rfl⟩

set_option maxHeartbeats 1000000 in
theorem ints_less (w : World) (gb n c : Nat) (x y : Int) (i j : Nat) (hi : i < n) (hj : j < n) (ci : w.cell? ⟨gb, i, none⟩ = some (.int .i64 x)) (cj : w.cell? ⟨gb, j, none⟩ = some (.int .i64 y)) :
    Calls Try.prog 58 #[.slice (some ⟨gb, 0, none⟩) n c, .int .i64 i, .int .i64 j] w fun e w' => e = .returned (.bool (decide (x < y))) ∧ ∃ q, w' = w.drewN q := by
  go_enter Try.func58, Try.ntmps58
  go_wp2
  go_quiet (fail)
  go_wp2
  go_ret
  exact ⟨rfl, nq, rfl⟩

set_option maxHeartbeats 1000000 in
theorem ints_swap_ne (w : World) (gb n c : Nat) (x y : Int) (i j : Nat) (hi : i < n) (hj : j < n) (hij : i ≠ j) (ci : w.cell? ⟨gb, i, none⟩ = some (.int .i64 x)) (cj : w.cell? ⟨gb, j, none⟩ = some (.int .i64 y)) (hf : ∀ k, w.frozen? ⟨gb, k, none⟩ = false) :
    Calls Try.prog 59 #[.slice (some ⟨gb, 0, none⟩) n c, .int .i64 i, .int .i64 j] w fun e w' => e = .returned (.tuple #[]) ∧ ∃ q, w' = ((w.setCell ⟨gb, i, none⟩ (.int .i64 y)).setCell ⟨gb, j, none⟩ (.int .i64 x)).drewN q := by
  go_enter Try.func59, Try.ntmps59
  go_wp2
  go_region
  all_goals (try go_wp2)
  all_goals go_end0
  all_goals exact ⟨rfl, 1, rfl⟩

set_option maxHeartbeats 1000000 in
theorem ints_swap_eq (w : World) (gb n c : Nat) (x : Int) (i : Nat) (hi : i < n) (ci : w.cell? ⟨gb, i, none⟩ = some (.int .i64 x)) (hf : ∀ k, w.frozen? ⟨gb, k, none⟩ = false) :
    Calls Try.prog 59 #[.slice (some ⟨gb, 0, none⟩) n c, .int .i64 i, .int .i64 i] w fun e w' => e = .returned (.tuple #[]) ∧ ∃ q, w' = ((w.setCell ⟨gb, i, none⟩ (.int .i64 x)).setCell ⟨gb, i, none⟩ (.int .i64 x)).drewN q := by
  go_enter Try.func59, Try.ntmps59
  go_wp2
  go_region
  all_goals (try go_wp2)
  all_goals go_end0
  all_goals exact ⟨rfl, 1, rfl⟩

theorem ints_less_own {w : World} {B : Nat} {v : Value} {l : List Int} (h : w.ownsRow B 3 1 v l.length (clsN l)) (i j : Nat) (hi : i < l.length) (hj : j < l.length) :
    Calls Try.prog 58 #[v, .int .i64 i, .int .i64 j] w fun e w' => e = .returned (.bool (ltI (g l i) (g l j))) ∧ ∃ q, w' = w.drewN q := by
  obtain ⟨gb, cap, rfl⟩ : ∃ gb cap, v = .slice (some ⟨gb, 0, none⟩) l.length cap := by
    rcases h.2 with ⟨_, h0⟩ | ⟨gb, cap, cur, hv, _⟩
    · omega
    · exact ⟨gb, cap, hv⟩
  exact ints_less w gb l.length cap _ _ i j hi hj ((h.cellAt _ (by omega)).trans (clsN_at l i hi)) ((h.cellAt _ (by omega)).trans (clsN_at l j hj))

theorem ints_swap_own {w : World} {B : Nat} {v : Value} {l : List Int} (h : w.ownsRow B 3 1 v l.length (clsN l)) (i j : Nat) (hi : i < l.length) (hj : j < l.length) :
    Calls Try.prog 59 #[v, .int .i64 i, .int .i64 j] w fun e w' => e = .returned (.tuple #[]) ∧ w'.ownsRow B 3 1 v (swp l i j).length (clsN (swp l i j)) ∧ w.grownBy w' v.ownBlock := by
  obtain ⟨gb, cap, rfl⟩ : ∃ gb cap, v = .slice (some ⟨gb, 0, none⟩) l.length cap := by
    rcases h.2 with ⟨_, h0⟩ | ⟨gb, cap, cur, hv, _⟩
    · omega
    · exact ⟨gb, cap, hv⟩
  have ci := (h.cellAt _ (by omega)).trans (clsN_at l i hi)
  have cj := (h.cellAt _ (by omega)).trans (clsN_at l j hj)
  have hf := fun k => h.frozenAt k
  have hown := ((h.stored i (.int .i64 (g l j))).1.stored j (.int .i64 (g l i))).1
  rw [← clsN_set, ← clsN_set] at hown
  have hg : ∀ (a : World) (k : Nat) (u : Value), w.grownBy a (some gb) → w.grownBy (a.setCell ⟨gb, k, none⟩ u) (some gb) := fun a k u ha =>
    ⟨ha.os, ha.tape, ha.output, by simpa [World.setCell] using ha.size, fun i hi hne => (Below.heap_setCell a ⟨gb, k, none⟩ u i (fun e => hne (by rw [e]))).trans (ha.block i hi hne)⟩
  have hgr := hg _ j (.int .i64 (g l i)) (hg _ i (.int .i64 (g l j)) (World.grownBy.refl w _))
  by_cases hij : i = j
  · subst hij
    refine (ints_swap_eq w gb l.length cap _ i hi ci hf).mono ?_
    rintro e w' ⟨rfl, q, rfl⟩
    exact ⟨rfl, by rw [Hp.length_swp]; exact ownsRow_drewN hown q, ⟨hgr.os, hgr.tape, hgr.output, hgr.size, hgr.block⟩⟩
  · refine (ints_swap_ne w gb l.length cap _ _ i j hi hj hij ci cj hf).mono ?_
    rintro e w' ⟨rfl, q, rfl⟩
    exact ⟨rfl, by rw [Hp.length_swp]; exact ownsRow_drewN hown q, ⟨hgr.os, hgr.tape, hgr.output, hgr.size, hgr.block⟩⟩

/-- The heap of numbers whose variable lies in block hb: what memory holds; all other blocks are as w0 has them. -/
structure RN (B : Nat) (w0 : World) (hb : Nat) (v0 : Value) (N : Nat) (l : List Int) (_tr : List Ev) (w : World) : Prop where
  own : ∃ v, w.heap[hb]? = some (.cells #[v] 47 (0, 0)) ∧ w.ownsRow B 3 1 v l.length (clsN l) ∧ Lies w0 v0 v
  frm : Frm (HX hb v0) w0 w
  size : l.length ≤ N
  few : N < 4611686018427387904

theorem mthLen : (Try.prog.info? 49).bind (fun i => (i.methods.find? (·.name == "Len")).map (fun m => (m.path, m.func))) = some (#[], some (57, false)) := by kernel_rfl
theorem mthLess : (Try.prog.info? 49).bind (fun i => (i.methods.find? (·.name == "Less")).map (fun m => (m.path, m.func))) = some (#[], some (58, false)) := by kernel_rfl
theorem mthSwap : (Try.prog.info? 49).bind (fun i => (i.methods.find? (·.name == "Swap")).map (fun m => (m.path, m.func))) = some (#[], some (59, false)) := by kernel_rfl
theorem mthPop : (Try.prog.info? 49).bind (fun i => (i.methods.find? (·.name == "Pop")).map (fun m => (m.path, m.func))) = some (#[], some (60, true)) := by kernel_rfl
theorem mthPush : (Try.prog.info? 49).bind (fun i => (i.methods.find? (·.name == "Push")).map (fun m => (m.path, m.func))) = some (#[], some (61, true)) := by kernel_rfl

theorem RN.grown {B : Nat} {w0 : World} {hb : Nat} {v0 : Value} {N : Nat} {l : List Int} {tr : List Ev} {w : World} (h : RN B w0 hb v0 N l tr w) {w' : World} {l' : List Int} {tr' : List Ev} (v : Value) (hv : w.heap[hb]? = some (.cells #[v] 47 (0, 0)))
    (hl : l'.length ≤ N) (ho : w.ownsRow B 3 1 v l.length (clsN l)) (hlie : Lies w0 v0 v) (ho' : w'.ownsRow B 3 1 v l'.length (clsN l')) (hg : w.grownBy w' v.ownBlock) : RN B w0 hb v0 N l' tr' w' := by
  have hne := own_ne ho hv (by decide)
  refine ⟨⟨v, ?_, ho', hlie⟩, frm_row h.frm hlie hg, hl, h.few⟩
  rw [hg.block hb (lt_of_block hv) (Ne.symm hne)]; exact hv

theorem ints_HI (B : Nat) (w0 : World) (hb : Nat) (v0 : Value) (N : Nat) {M : Nat} : HI 49 (.pointer (some ⟨hb, 0, none⟩)) ltI M (RN B w0 hb v0 N) where
  small := fun l tr w h => Nat.lt_of_le_of_lt h.size h.few
  len := fun l tr w h => by
    obtain ⟨v, hv, ho, _⟩ := h.own
    obtain ⟨A, c, rfl⟩ := own_slice ho
    refine ⟨57, _, run_method_ptr_val _ mthLen Try.underlying49 (run_loadVar_slice Try.underlying47 (cell_of_one hv)), enters_of Try.func57 (by kernel_rfl) rfl, (ints_len w A _ c).mono ?_⟩
    rintro e w' ⟨rfl, rfl⟩
    exact ⟨rfl, h⟩
  less := fun l tr w i j h hi hj _ => by
    obtain ⟨v, hv, ho, hlie⟩ := h.own
    have hcl := ints_less_own ho i j hi hj
    obtain ⟨A, c, rfl⟩ := own_slice ho
    refine ⟨58, _, run_method_ptr_val _ mthLess Try.underlying49 (run_loadVar_slice Try.underlying47 (cell_of_one hv)), enters_of Try.func58 (by kernel_rfl) rfl, hcl.mono ?_⟩
    rintro e w' ⟨rfl, q, rfl⟩
    exact ⟨rfl, ⟨⟨_, hv, ownsRow_drewN ho q, hlie⟩, h.frm.drewN q, h.size, h.few⟩⟩
  swap := fun l tr w i j h hi hj _ => by
    obtain ⟨v, hv, ho, hlie⟩ := h.own
    have hcl := ints_swap_own ho i j hi hj
    obtain ⟨A, c, rfl⟩ := own_slice ho
    refine ⟨59, _, run_method_ptr_val _ mthSwap Try.underlying49 (run_loadVar_slice Try.underlying47 (cell_of_one hv)), enters_of Try.func59 (by kernel_rfl) rfl, hcl.mono ?_⟩
    rintro e w' ⟨rfl, ho', hg⟩
    exact ⟨rfl, h.grown _ hv (by rw [Hp.length_swp]; exact h.size) ho hlie ho' hg⟩

set_option maxHeartbeats 1000000 in
set_option maxRecDepth 100000 in
theorem ints_pop (w : World) (hb gb n c : Nat) (x : Int) (hn : n + 1 < 4611686018427387904) (hc : n + 1 ≤ c) (hv : w.cell? ⟨hb, 0, none⟩ = some (.slice (some ⟨gb, 0, none⟩) (n + 1) c)) (hf : w.frozen? ⟨hb, 0, none⟩ = false)
    (h1 : w.cell? ⟨gb, n, none⟩ = some (.int .i64 x)) :
    Calls Try.prog 60 #[.pointer (some ⟨hb, 0, none⟩)] w fun e w' => e = .returned (encN x) ∧ w' = w.setCell ⟨hb, 0, none⟩ (.slice (some ⟨gb, 0, none⟩) n c) := by
  go_enter Try.func60, Try.ntmps60
  go_wp2
  go_ret
  exact ⟨rfl, rfl⟩

theorem own_popN {w : World} {B gb n c : Nat} {l : List Int} (h : w.ownsRow B 3 1 (.slice (some ⟨gb, 0, none⟩) (n + 1) c) (n + 1) (clsN l)) (hl : l.length = n + 1) :
    w.ownsRow B 3 1 (.slice (some ⟨gb, 0, none⟩) n c) n (clsN l.dropLast) := by
  refine ⟨by rw [length_clsN, List.length_dropLast, hl]; omega, ?_⟩
  rcases h.2 with ⟨hv, h0⟩ | ⟨g', cap, cur, hv, hb, hh, hnc, hcm, hcs, ht⟩
  · omega
  · injection hv with hv1 _ hv3
    injection hv1 with hv1
    injection hv1 with hv1 _ _
    subst hv1
    subst hv3
    refine .inr ⟨gb, c, cur, rfl, hb, hh, by omega, hcm, hcs, ?_⟩
    rw [clsN_dropLast, hl, ← ht, List.take_take, Nat.add_sub_cancel, Nat.min_eq_left (by omega), Nat.mul_one]

theorem ints_HPop (B : Nat) (w0 : World) (hb : Nat) (v0 : Value) (N : Nat) {M : Nat} : HPop 49 (.pointer (some ⟨hb, 0, none⟩)) encN evN M (RN B w0 hb v0 N) where
  pop := fun l tr w h hl _ => by
    obtain ⟨v, hv, ho, hlie⟩ := h.own
    have hne := own_ne ho hv (by decide)
    obtain ⟨n, hn⟩ : ∃ n, l.length = n + 1 := ⟨l.length - 1, by omega⟩
    obtain ⟨gb, cap, rfl, hcap⟩ : ∃ gb cap, v = .slice (some ⟨gb, 0, none⟩) l.length cap ∧ l.length ≤ cap := by
      rcases ho.2 with ⟨_, h0⟩ | ⟨gb, cap, cur, hv, _, _, hc, _⟩
      · omega
      · exact ⟨gb, cap, hv, hc⟩
    have c1 := (ho.cellAt n (by omega)).trans (clsN_at l n (by omega))
    have hsm := Nat.lt_of_le_of_lt h.size h.few
    rw [hn] at hv ho hcap hne hsm ⊢
    rw [Nat.add_sub_cancel]
    refine ⟨60, _, run_method_ptr _ mthPop Try.underlying49, enters_of Try.func60 (by kernel_rfl) rfl,
      (ints_pop w hb gb n cap _ hsm hcap (cell_of_one hv) (free_of_one hv) c1).mono ?_⟩
    rintro e w' ⟨rfl, rfl⟩
    refine ⟨rfl, ⟨_, one_setCell hv, ?_, fun k hk => hlie k hk⟩, h.frm.setCell (.inl rfl) _, ?_, h.few⟩
    · rw [List.length_dropLast, hn, Nat.add_sub_cancel]
      exact ownsRow_setCell_other (a := ⟨hb, 0, none⟩) (own_popN ho hn) (by simpa [Value.ownBlock] using hne) _
    · rw [List.length_dropLast]; have := h.size; omega

theorem push_noteN {B hb : Nat} {v v' : Value} {l l' : List Int} {w w1 : World} (hbk : w.heap[hb]? = some (.cells #[v] 47 (0, 0))) (ho : w.ownsRow B 3 1 v l.length (clsN l)) (o : Obj) (n : Nat)
    (h1 : w1.ownsRow B 3 1 v' n (clsN l')) (hg : (w.drew.alloc o).grownBy w1 v.ownBlock) (hl : v'.ownBlock = v.ownBlock ∨ v'.ownBlock = some (w.drew.alloc o).heap.size) :
    w1.heap[hb]? = some (.cells #[v] 47 (0, 0)) ∧ (w1.setCell ⟨hb, 0, none⟩ v').heap[hb]? = some (.cells #[v'] 47 (0, 0)) ∧ (w1.setCell ⟨hb, 0, none⟩ v').ownsRow B 3 1 v' n (clsN l') ∧
      Frm (HX hb v) w (w1.setCell ⟨hb, 0, none⟩ v') ∧ Lies w v v' := by
  have hlt := lt_of_block hbk
  have hne := own_ne ho hbk (by decide)
  have hb1 : w1.heap[hb]? = some (.cells #[v] 47 (0, 0)) := by
    rw [hg.block hb (by simp; omega) (Ne.symm hne)]
    exact (Below.heap_alloc w.drew o hb hlt).trans hbk
  refine ⟨hb1, one_setCell hb1, ownsRow_setCell_other h1 (own_ne h1 hb1 (by decide)) _, ?_, Lies.of_or (w := w.drew.alloc o) hl (by simp)⟩
  exact Frm.setCell (X := HX hb v) (p := ⟨hb, 0, none⟩) (frm_row ((Frm.refl _ w).drew.alloc o) (Lies.refl w v) hg) (.inl rfl) _

theorem wp_append_intsT {w : World} {o : Oper} {a : Act} {K : Act → World → Prop} {Q : Exit → Act → World → Prop} (s x : Operand)
    (ho : o.op = .call { callee := .builtin .append, args := #[s, x], argTypes := #[47, 47] }) (u : Value) (B : Nat) (l : List Int) (y : Int) (gs : Nat) (hs : a.eval s = u) (hx : a.eval x = .slice (some ⟨gs, 0, none⟩) 1 1)
    (hown : w.ownsRow B 3 1 u l.length (clsN l)) (hg : w.heap[gs]? = some (.cells #[.int .i64 y] 3 (0, 0))) (hn : l.length + 1 ≤ 26388279066624) (hB : B ≤ w.heap.size)
    (h : ∀ A' c' w', w'.ownsRow B 3 1 (.slice A' (l.length + 1) c') (l.length + 1) (clsN (l ++ [y])) → w.grownBy w' u.ownBlock → ((Value.slice A' (l.length + 1) c').ownBlock = u.ownBlock ∨ (Value.slice A' (l.length + 1) c').ownBlock = some w.heap.size) → K (a.put o.dst (.slice A' (l.length + 1) c')) w') : o.wp Try.prog a w K Q := by
  obtain ⟨A', c', w', hr, h1, h2, h3⟩ := run_append_int Try.underlying47 hown y gs hg hn hB o.type
  exact wp_append_run s x _ ho _ _ _ _ hs hx hr (h A' c' w' h1 h2 h3)

set_option maxHeartbeats 2000000 in
set_option maxRecDepth 100000 in
theorem ints_push {B hb : Nat} {v : Value} {l : List Int} {w : World} (hbk : w.heap[hb]? = some (.cells #[v] 47 (0, 0))) (ho : w.ownsRow B 3 1 v l.length (clsN l)) (hlow : B ≤ w.heap.size) (x : Int) (hn : l.length + 1 ≤ 26388279066624) :
    Calls Try.prog 61 #[.pointer (some ⟨hb, 0, none⟩), encN x] w fun e w' => e = .returned (.tuple #[]) ∧
      ∃ v', w'.heap[hb]? = some (.cells #[v'] 47 (0, 0)) ∧ w'.ownsRow B 3 1 v' (l ++ [x]).length (clsN (l ++ [x])) ∧ Frm (HX hb v) w w' ∧ Lies w v v' := by
  have hlt := lt_of_block hbk
  obtain ⟨A1, c1, rfl⟩ := own_slice ho
  have k0 : w.cell? ⟨hb, 0, none⟩ = some (.slice A1 l.length c1) := by simp [World.cell?, hbk]
  have HO := Lib.hid ho
  have HBK := Lib.hid hbk
  obtain ⟨m, hm⟩ : ∃ m, m = l.length := ⟨_, rfl⟩
  rw [← hm] at k0
  have HM := Lib.hid hm
  have hta := run_assert_int
  clear ho hbk hm
  unfold encN
  go_enter Try.func61, Try.ntmps61
  go_wp2
  go_region_law
    (first
      | (refine wanted_plain rfl (wp_append_intsT (.tmp 7) (.tmp 10) rfl (.slice A1 l.length c1) B l x w.heap.size (by simp [Act.eval, HM.out]) (by simp [Act.eval]) ?_ ?_ ?_ ?_ ?_)
         · exact (HO.out.drew.alloc _)
         · exact heap_alloc_new _ _
         · exact hn
         · simp; omega
         intro A3 c3 w3 ho3 hg3 hl3
         obtain ⟨hm3, hW3, hO3, hB3, hL3⟩ := push_noteN HBK.out HO.out _ _ ho3 hg3 hl3
         have HL3 := Lib.hid hL3
         clear hl3 hL3
         have k3 : w3.cell? ⟨hb, 0, none⟩ = some (.slice A1 m c1) := by simp [World.cell?, hm3, HM.out]
         have f3 : w3.frozen? ⟨hb, 0, none⟩ = false := by simp [World.frozen?, hm3]))
  all_goals
    go_end0
    exact ⟨rfl, _, hW3, by rw [List.length_append]; exact hO3, hB3, HL3.out⟩

theorem ints_HPush (B : Nat) (w0 : World) (hb : Nat) (v0 : Value) (N : Nat) (hN : N ≤ 26388279066624) (hB : B ≤ w0.heap.size) {M : Nat} : HPush 49 (.pointer (some ⟨hb, 0, none⟩)) encN evN M N (RN B w0 hb v0 N) where
  push := fun l tr w x h hl _ => by
    obtain ⟨v, hv, ho, hlie⟩ := h.own
    refine ⟨61, _, run_method_ptr _ mthPush Try.underlying49, enters_of Try.func61 (by kernel_rfl) rfl,
      (ints_push hv ho (Nat.le_trans hB h.frm.size) x (by omega)).mono ?_⟩
    rintro e w' ⟨rfl, v', hv', ho', hf', hl'⟩
    refine ⟨rfl, ⟨v', hv', ho', hlie.trans hl' h.frm.size⟩, h.frm.next hf' (fun i hi e => ?_), by rw [List.length_append]; simp; omega, h.few⟩
    rcases e with e | e
    · exact .inl e
    · rcases hlie i e with h1 | h1
      · exact .inr h1
      · omega
end Go.Proofs.Ytjojlnmcifkenaa
