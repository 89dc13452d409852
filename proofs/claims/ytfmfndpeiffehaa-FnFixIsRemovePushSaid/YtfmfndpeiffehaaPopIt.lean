/-
  impl.HeapPopItems: what it returns; ascendingKeys for a list in ascending order. Conditions: memory holds the list, within the reach of a slice.
-/
import Derived.Test.YtfmfndpeiffehaaItemsF
import Derived.Test.YtfmfndpeiffehaaHeapPop
import Derived.Test.YtfmfndpeiffehaaPlainP
import Derived.Test.YtfmfndpeiffehaaNewits
namespace Go.Proofs.Ytfmfndpeiffehaa
open Go.RowKit Go.Shelf
open Hp (g swp Ev)

/-- append of one item onto an own slice, and where the new slice lies. -/
theorem wp_append_item_at {w : World} {o : Oper} {a : Act} {K : Act → World → Prop} {Q : Exit → Act → World → Prop} (s x : Operand)
    (ho : o.op = .call { callee := .builtin .append, args := #[s, x], argTypes := #[26, 26] }) (u : Value) (B : Nat) (l : List It) (y : It) (gs : Nat) (hs : a.eval s = u) (hx : a.eval x = .slice (some ⟨gs, 0, none⟩) 1 1)
    (hown : w.ownsRow B 35 2 u l.length (cls l)) (hg : w.heap[gs]? = some (.cells #[.int .i64 y.1, .int .i64 y.2] 35 (0, 0)))
    (hn : (l.length + 1) * 16 ≤ 211106232598528) (hB : B ≤ w.heap.size)
    (h : ∀ A' c' w', w'.ownsRow B 35 2 (.slice A' (l.length + 1) c') (l.length + 1) (cls (l ++ [y])) → w.grownBy w' u.ownBlock → ((Value.slice A' (l.length + 1) c').ownBlock = u.ownBlock ∨ (Value.slice A' (l.length + 1) c').ownBlock = some w.heap.size) → K (a.put o.dst (.slice A' (l.length + 1) c')) w') : o.wp Try.prog a w K Q := by
  obtain ⟨i0, hi, hz0, hz1, hz2⟩ := info_parts info_item
  obtain ⟨v', w', hr, h2, h3, h4⟩ := run_append_wide_at (P := Try.prog) w B 26 o.type 35 i0 _ 2 16 Try.underlying26 hi hz0 hz1 hz2 rfl (by decide) u l.length (cls l) hown
    ⟨gs, 0, none⟩ 1 1 [.int .i64 y.1, .int .i64 y.2] rfl (World.news_of_block (cs := #[.int .i64 y.1, .int .i64 y.2]) (t := 35) (fr := (0, 0)) hg) (by simp [Value.oneCell']) (by simp only [maxLen]; omega) (wide_fits16 hn) hB
  obtain ⟨A', c', rfl⟩ := own_slice h2
  exact wp_append_run s x _ ho _ _ _ _ hs hx hr (h A' c' w' (by rw [cls_append]; exact h2) h3 h4)
theorem wpList_append_item_at {w : World} {ops : Array Oper} {rest : List Oper} {o : Oper} {a : Act} {Q : Exit → Act → World → Prop} (hgd : o.guard = none) (s x : Operand)
    (ho : o.op = .call { callee := .builtin .append, args := #[s, x], argTypes := #[26, 26] }) (u : Value) (B : Nat) (l : List It) (y : It) (gs : Nat) (hs : a.eval s = u) (hx : a.eval x = .slice (some ⟨gs, 0, none⟩) 1 1)
    (hown : w.ownsRow B 35 2 u l.length (cls l)) (hg : w.heap[gs]? = some (.cells #[.int .i64 y.1, .int .i64 y.2] 35 (0, 0)))
    (hn : (l.length + 1) * 16 ≤ 211106232598528) (hB : B ≤ w.heap.size)
    (h : ∀ A' c' w', w'.ownsRow B 35 2 (.slice A' (l.length + 1) c') (l.length + 1) (cls (l ++ [y])) → w.grownBy w' u.ownBlock → ((Value.slice A' (l.length + 1) c').ownBlock = u.ownBlock ∨ (Value.slice A' (l.length + 1) c').ownBlock = some w.heap.size) → wpList Try.prog ops Q rest (a.put o.dst (.slice A' (l.length + 1) c')) w') : wpList Try.prog ops Q (o :: rest) a w :=
  wpList_plain hgd fun _ hK => wp_append_item_at s x ho u B l y gs hs hx hown hg hn hB fun A' c' w' h1 h2 h3 => hK _ _ (h A' c' w' h1 h2 h3)

/-- The heap of a script and the list of what was returned so far. -/
structure HS (B : Nat) (w : World) (hb : Nat) (vh vo : Value) (l o : List It) : Prop where
  box : w.heap[hb]? = some (.cells #[vh] 52 (0, 0))
  heap : w.ownsRow B 35 2 vh l.length (cls l)
  out : w.ownsRow B 35 2 vo o.length (cls o)
  apart : ∀ k, vh.ownBlock = some k → vo.ownBlock ≠ some k
  low : B ≤ w.heap.size

theorem HS.alloc {B : Nat} {w : World} {hb : Nat} {vh vo : Value} {l o : List It} (h : HS B w hb vh vo l o) (ob : Obj) : HS B (w.alloc ob) hb vh vo l o :=
  ⟨(Below.heap_alloc w ob hb (lt_of_block h.box)).trans h.box, h.heap.alloc _, h.out.alloc _, h.apart, by have := h.low; simp; omega⟩
theorem RJ.begin {B : Nat} {w : World} {hb : Nat} {vh : Value} {N : Nat} {l : List It} (hbk : w.heap[hb]? = some (.cells #[vh] 52 (0, 0))) (ho : w.ownsRow B 35 2 vh l.length (cls l)) (hl : l.length ≤ N) (hN : N < 4611686018427387904) :
    RJ B w hb vh N l [] w := ⟨⟨vh, hbk, ho, Lies.refl _ _⟩, Frm.refl _ _, hl, hN⟩

theorem HS.moved {B : Nat} {w w1 w2 : World} {hb : Nat} {vh vo : Value} {l l' o : List It} {N : Nat} {tr : List Ev} (h : HS B w hb vh vo l o) (hw : Below w.heap.size w w1) (hr : RJ B w1 hb vh N l' tr w2) :
    ∃ vh', HS B w2 hb vh' vo l' o ∧ Frm (HX hb vh) w w2 ∧ Lies w vh vh' := by
  obtain ⟨v, hv, ho, hl⟩ := hr.own
  have hf : Frm (HX hb vh) w w2 := (Frm.of_new hw).next hr.frm (fun _ _ h => h)
  refine ⟨v, ⟨hv, ho, own_frm h.out hf ?_, ?_, Nat.le_trans h.low hf.size⟩, hf, fun k hk => (hl k hk).imp id (Nat.le_trans hw.size)⟩
  · intro k hk hx
    rcases hx with hx | hx
    · exact own_ne h.out h.box (by decide) (by rw [hk, hx])
    · exact h.apart k hx hk
  · intro k hk hok
    rcases hl k hk with h1 | h1
    · exact h.apart k h1 hok
    · have h2 := (h.out.lt k hok).2
      have := hw.size
      omega

theorem HS.pushed {B : Nat} {w w3 w4 : World} {hb : Nat} {vh vo vo' : Value} {l o : List It} {x : It} (h : HS B w hb vh vo l o) (hw : Below w.heap.size w w3) (ho : w4.ownsRow B 35 2 vo' (o.length + 1) (cls (o ++ [x]))) (hg : w3.grownBy w4 vo.ownBlock)
    (hl : vo'.ownBlock = vo.ownBlock ∨ vo'.ownBlock = some w3.heap.size) : HS B w4 hb vh vo' l (o ++ [x]) ∧ Frm (fun k => vo.ownBlock = some k) w w4 ∧ Lies w vo vo' := by
  have hf : Frm (fun k => vo.ownBlock = some k) w w4 := (Frm.of_new hw).next (Frm.of_grown (X := fun k => vo.ownBlock = some k) hg (fun _ e => e)) (fun _ _ h => h)
  have hL : Lies w vo vo' := Lies.of_or hl hw.size
  refine ⟨⟨?_, own_frm h.heap hf (fun k hk hx => h.apart k hk hx), by rw [List.length_append]; exact ho, ?_, Nat.le_trans h.low hf.size⟩, hf, hL⟩
  · rw [hf.block hb (lt_of_block h.box) (own_ne h.out h.box (by decide))]; exact h.box
  · intro k hk hok
    rcases hL k hok with h1 | h1
    · exact h.apart k hk h1
    · have h2 := (h.heap.lt k hk).2
      omega


theorem m16 {n : Nat} (h : n ≤ 13194139537408) : n * 16 ≤ 211106232598528 := by omega
theorem popsI_step (l : List It) (k : Nat) (r R : List It) (h : r ++ Hp.pops ltK (k + 1) l = R) : (r ++ [g l 0]) ++ Hp.pops ltK k (Hp.popD ltK l).dropLast = R := by
  rw [← h]; simp [Hp.pops]

set_option maxHeartbeats 2000000 in
set_option maxRecDepth 100000 in
theorem heapPopItems_any (w : World) (A : Option Addr) (n c : Nat) (x : List It) (hl : n = x.length) (hr : Rd w A (cls x)) (hn : x.length + 1 ≤ 13194139537408) :
    Calls Try.prog 28 #[.slice A n c] w (NewIts w (Hp.pops ltK x.length x)) := by
  subst hl
  go_enter Try.func28, Try.ntmps28
  go_wp2_with fail
  refine (copied_any w A _ c x rfl hr (by omega)).mono ?_
  rintro e w1 ⟨A1, c1, rfl, ho1, hb1⟩
  have hs1 := hb1.size
  have hn1 : HS w.heap.size (w1.alloc (.cells #[.slice A1 x.length c1] 52)) w1.heap.size (.slice A1 x.length c1) (.slice none 0 0) x [] :=
    ⟨heap_alloc_new _ _, ho1.alloc _, World.ownsRow_nil _ _ _ _, fun k _ => by simp [Value.ownBlock], by simp; omega⟩
  have HB2 := Lib.hid (hb1.alloc hs1 (.cells #[.slice A1 x.length c1] 52))
  have HN2 := Lib.hid hn1
  obtain ⟨R, hRR⟩ : ∃ R, R = Hp.pops ltK x.length x := ⟨_, rfl⟩
  have HRE := Lib.hid hRR
  have HPS : Hid ([] ++ Hp.pops ltK (x.length - 0) x = R) := by rw [hRR]; rfl
  have HLL : Hid (x.length + 0 = x.length) := rfl
  have hta := run_assert_item
  obtain ⟨hb, hhb⟩ : ∃ hb, hb = w1.heap.size := ⟨_, rfl⟩
  have hlow : w.heap.size ≤ hb := by omega
  obtain ⟨vh2, hvh2⟩ : ∃ v, v = Value.slice A1 x.length c1 := ⟨_, rfl⟩
  rw [← hhb, ← hvh2] at HN2
  rw [← hvh2] at HB2
  clear hn1 hRR hr ho1 hb1
  go_wp2_with fail
  rw [← hvh2, ← hhb]
  clear hvh2 hhb hs1
  go_loopw [4, 9] (fun s4 s9 wr => ∃ (k : Nat) (vh : Value) (L r : List It), s9 = .int .i64 (k : Int) ∧ k ≤ x.length ∧ r.length ≤ k ∧ Hid (L.length + k = x.length) ∧ Aside (HS w.heap.size wr hb vh s4 L r) ∧ Below w.heap.size w wr ∧ Hid (r ++ Hp.pops ltK (x.length - k) L = R))
    (fun _ s9 _ => x.length - (intOf s9).toNat)
  case atStart => exact ⟨0, vh2, x, [], rfl, by omega, by simp, HLL, HN2.out, HB2.out, HPS⟩
  case round =>
    obtain ⟨k, vh, L, r, rfl, hk, hrl, HLK, hn3, hbi, HPR⟩ := hrel
    clear HLL HN2 HB2 HPS
    have HNI := Lib.hid hn3.out
    have HBI := Lib.hid hbi
    clear hn3 hbi
    by_cases hlt : k < x.length
    · have hpos : 0 < L.length := by have := HLK.out; omega
      have hLl : L.length ≤ x.length := by have := HLK.out; omega
      obtain ⟨⟨y1, y2⟩, hy⟩ : ∃ y, g L 0 = y := ⟨_, rfl⟩
      have hc := pop_any (items_HJ w.heap.size wr hb vh L.length) (items_HJPop w.heap.size wr hb vh L.length) L [] _ (RJ.begin HNI.out.box HNI.out.heap (Nat.le_refl _) (by omega)) hpos (Nat.lt_succ_self _)
      rw [hy] at hc
      unfold encI at hc
      have HC := Lib.hid hc
      have hps := popsI_step L (x.length - (k + 1)) r R (by rw [show x.length - (k + 1) + 1 = x.length - k by omega]; exact HPR.out)
      rw [hy] at hps
      have HPS := Lib.hid hps
      have HLD := Lib.hid (show (Hp.popD ltK L).dropLast.length + (k + 1) = x.length by rw [List.length_dropLast, Hp.length_popD]; have := HLK.out; omega)
      have HNR := Lib.hid (m16 (show r.length + 1 ≤ 13194139537408 by omega))
      clear hc hps hy
      go_wp2_with fail
      refine HC.out.mono ?_
      rintro e w2 ⟨rfl, hR2⟩
      obtain ⟨vh3, hn3, hf3, hl3⟩ := HNI.out.moved (Below.refl _ _) hR2
      have HN3 := Lib.hid hn3
      have HB3 := Lib.hid (HBI.out.trans (hf3.below HNI.out.low (by
        rintro i (e | e)
        · rw [e]; exact hlow
        · exact (HNI.out.heap.lt i e).1)))
      have hz4 := heap_alloc_new w2 (.cells #[.int .i64 y1, .int .i64 y2] 35)
      have HZ4 := Lib.hid hz4
      have HL4 := Lib.hid (show w.heap.size ≤ (w2.alloc (.cells #[.int .i64 y1, .int .i64 y2] 35)).heap.size by have := hn3.low; simp; omega)
      clear hR2 hn3 hz4 HC hf3 hl3
      go_wp2_with (at_builtin; refine wpList_append_item_at rfl _ _ rfl _ w.heap.size r (y1, y2) w2.heap.size rfl rfl (HN3.out.out.alloc _) HZ4.out HNR.out HL4.out ?_)
      intro A5 c5 w5 ho5 hg5 hl5
      obtain ⟨hn5, hf5, _⟩ := HN3.out.pushed ((Below.refl _ _).alloc (Nat.le_refl _) _) ho5 hg5 (by rw [heap_size_alloc]; exact hl5)
      have HN5 := Lib.hid hn5
      have HB5 := Lib.hid (HB3.out.trans (hf5.below HN3.out.low (fun i e => (HN3.out.out.lt i e).1)))
      clear hn5 hf5 ho5 hg5 hl5
      go_wp2
      go_roundw
      case rel => exact ⟨k + 1, _, (Hp.popD ltK L).dropLast, r ++ [(y1, y2)], by go_num, by omega, by rw [List.length_append]; simp; omega, HLD, HN5.out, HB5.out, HPS⟩
      case measure => simp [intOf]; omega
    · have hr := HPR.out
      rw [show x.length - k = 0 by omega, Hp.pops, List.append_nil] at hr
      have h3 := HNI.out
      obtain ⟨Aa, ca, ha⟩ := own_slice h3.out
      have HH3 := Lib.hid h3
      have HHR := Lib.hid (hr.trans HRE.out)
      clear hr h3
      go_wp2
      subst ha
      go_ret
      rw [← HHR.out]
      exact ⟨Aa, ca, rfl, HH3.out.out, HBI.out⟩

set_option maxHeartbeats 1000000 in
set_option maxRecDepth 100000 in
theorem ascendingKeys_yes (w : World) (A : Option Addr) (n c : Nat) (l : List It) (hl : n = l.length) (hr : Rd w A (cls l)) (hn : l.length + 1 ≤ 13194139537408) (hs : l.Pairwise (fun a b => ltK b a = false)) :
    Calls Try.prog 29 #[.slice A n c] w (Gives w (.bool true)) := by
  subst hl
  have HS := Lib.hid (show ∀ k, 0 < k → k < l.length → (g l (k - 1)).1 ≤ (g l k).1 from by
    intro k h0 hk
    have h := List.pairwise_iff_getElem.1 hs (k - 1) k (by omega) hk (by omega)
    rw [Hp.g_eq, Hp.g_eq] at h
    simp only [ltK, decide_eq_false_iff_not, Int.not_lt] at h
    exact h)
  clear hs
  go_enter Try.func29, Try.ntmps29
  go_wp2
  go_loopw [3] (fun s3 wr => ∃ (k q : Nat), s3 = .int .i64 (k : Int) ∧ 1 ≤ k ∧ k ≤ l.length + 1 ∧ wr = w.drewN q) (fun s3 _ => l.length + 1 - (intOf s3).toNat)
  case atStart => exact ⟨1, 0, rfl, by omega, by omega, rfl⟩
  case round =>
    obtain ⟨k, q, rfl, hk1, hk, rfl⟩ := hrel
    by_cases hlt : k < l.length
    · obtain ⟨bb, o, rfl, hbb, h1, _⟩ := hr.at_ k hlt
      obtain ⟨bb', o', hA, _, h2, _⟩ := hr.at_ (k - 1) (by omega)
      injection hA with hA
      injection hA with hA1 hA2
      subst hA1
      subst hA2
      have hle := HS.out k (by omega) hlt
      obtain ⟨x, hx⟩ : ∃ x, (g l k).1 = x := ⟨_, rfl⟩
      obtain ⟨y, hy⟩ : ∃ y, (g l (k - 1)).1 = y := ⟨_, rfl⟩
      rw [hx] at h1 hle
      rw [hy] at h2 hle
      clear hx hy hr
      have hd : ((k : Int) - 1) = ((k - 1 : Nat) : Int) := by omega
      go_wp2_with fail
      go_quiet (fail)
      go_wp2
      go_roundw
      case rel => exact ⟨k + 1, q + nq, by go_num, by omega, by omega, rfl⟩
      case measure => simp [intOf]; omega
    · go_wp2
      go_ret
      exact ⟨rfl, below_drewN (Below.refl _ _) _⟩
end Go.Proofs.Ytfmfndpeiffehaa
