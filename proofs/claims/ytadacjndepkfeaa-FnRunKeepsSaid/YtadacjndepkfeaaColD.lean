/-
  impl's type columns as an implementation of heap.Interface. Condition: memory holds the two rows (RC); where they grow: they stay within what append can bear.
-/
import Derived.Test.YtadacjndepkfeaaColA
import Derived.Test.YtadacjndepkfeaaColP
import Derived.Test.YtadacjndepkfeaaColC
namespace Go.Proofs.Ytadacjndepkfeaa
open Go.RowKit Go.Shelf
open Hp (g swp Ev)

/-- The heap of the type columns whose variable lies in block hb: what memory holds; all other blocks are as w0 has them. -/
structure RC (B : Nat) (w0 : World) (hb : Nat) (k0 t0 : Value) (N : Nat) (l : List It) (_tr : List Ev) (w : World) : Prop where
  own : ∃ vk vt, KS B w hb vk vt (l.map Prod.fst) (l.map Prod.snd) ∧ Lies w0 k0 vk ∧ Lies w0 t0 vt
  frm : Frm (KX hb k0 t0) w0 w
  size : l.length ≤ N
  few : N < 4611686018427387904

theorem mcLen : (Try.prog.info? 61).bind (fun i => (i.methods.find? (·.name == "Len")).map (fun m => (m.path, m.func))) = some (#[], some (43, false)) := by kernel_rfl
theorem mcLess : (Try.prog.info? 61).bind (fun i => (i.methods.find? (·.name == "Less")).map (fun m => (m.path, m.func))) = some (#[], some (70, false)) := by kernel_rfl
theorem mcSwap : (Try.prog.info? 61).bind (fun i => (i.methods.find? (·.name == "Swap")).map (fun m => (m.path, m.func))) = some (#[], some (73, false)) := by kernel_rfl
theorem mcPop : (Try.prog.info? 61).bind (fun i => (i.methods.find? (·.name == "Pop")).map (fun m => (m.path, m.func))) = some (#[], some (71, true)) := by kernel_rfl
theorem mcPush : (Try.prog.info? 61).bind (fun i => (i.methods.find? (·.name == "Push")).map (fun m => (m.path, m.func))) = some (#[], some (72, true)) := by kernel_rfl
theorem info_columns : (Try.prog.info? 63).map (·.size) = some 2 := by kernel_rfl
theorem load_columns {w : World} {hb : Nat} {vk vt : Value} (h : w.heap[hb]? = some (CB vk vt)) : (loadVar 63 ⟨hb, 0, none⟩).run Try.prog w = .ok (.agg #[vk, vt]) w :=
  run_loadVar_row w hb 63 63 #[vk, vt] (0, 0) _ h Try.underlying63 rfl info_columns

section
variable {B : Nat} {w : World} {hb : Nat} {vk vt : Value} {l : List It}
theorem fst_swp (l : List It) (i j : Nat) : ((l.map Prod.fst).set i (g l j).1).set j (g l i).1 = (swp l i j).map Prod.fst := by simp [swp, List.map_set]
theorem snd_swp (l : List It) (i j : Nat) : ((l.map Prod.snd).set i (g l j).2).set j (g l i).2 = (swp l i j).map Prod.snd := by simp [swp, List.map_set]
theorem row_some {e : TypeId} {n : Nat} {v : Value} {xs : List Value} (h : w.ownsRow B e 1 v n xs) (hn : 0 < n) : ∃ gb cap, v = .slice (some ⟨gb, 0, none⟩) n cap ∧ n ≤ cap ∧ gb < w.heap.size := by
  rcases h.2 with ⟨_, h0⟩ | ⟨gb, cap, cur, hv, _, hh, hc, _⟩
  · omega
  · exact ⟨gb, cap, hv, hc, (Array.getElem?_eq_some_iff.1 hh).1⟩
theorem g_fst {l : List It} {i : Nat} (hi : i < l.length) : g (l.map Prod.fst) i = (g l i).1 := by
  unfold g
  rw [List.getElem?_map, List.getElem?_eq_getElem hi]
  rfl
theorem g_snd {l : List It} {i : Nat} (hi : i < l.length) : g (l.map Prod.snd) i = (g l i).2 := by
  unfold g
  rw [List.getElem?_map, List.getElem?_eq_getElem hi]
  rfl
theorem KS.atK (h : KS B w hb vk vt (l.map Prod.fst) (l.map Prod.snd)) {gb n c : Nat} (hv : vk = .slice (some ⟨gb, 0, none⟩) n c) (i : Nat) (hi : i < l.length) : w.cell? ⟨gb, i, none⟩ = some (.int .i64 (g l i).1) := by
  have hn : n = (l.map Prod.fst).length := by
    obtain ⟨A, c', e⟩ := own_slice h.ks
    rw [e] at hv
    injection hv with _ e2 _
    exact e2.symm
  subst hn
  have ho := h.ks
  rw [hv] at ho
  rw [ho.cellAt i (by simpa using hi), clsN_at _ i (by simpa using hi), g_fst hi]
theorem KS.atT (h : KS B w hb vk vt (l.map Prod.fst) (l.map Prod.snd)) {gb n c : Nat} (hv : vt = .slice (some ⟨gb, 0, none⟩) n c) (i : Nat) (hi : i < l.length) : w.cell? ⟨gb, i, none⟩ = some (.int .i64 (g l i).2) := by
  have hn : n = (l.map Prod.snd).length := by
    obtain ⟨A, c', e⟩ := own_slice h.ts
    rw [e] at hv
    injection hv with _ e2 _
    exact e2.symm
  subst hn
  have ho := h.ts
  rw [hv] at ho
  rw [ho.cellAt i (by simpa using hi), clsN_at _ i (by simpa using hi), g_snd hi]

theorem columns_swap_own (h : KS B w hb vk vt (l.map Prod.fst) (l.map Prod.snd)) (i j : Nat) (hi : i < l.length) (hj : j < l.length) :
    Calls Try.prog 73 #[.agg #[vk, vt], .int .i64 i, .int .i64 j] w fun e w' => e = .returned (.tuple #[]) ∧ KS B w' hb vk vt ((swp l i j).map Prod.fst) ((swp l i j).map Prod.snd) ∧ Frm (KX hb vk vt) w w' := by
  obtain ⟨gb, c, hvk, _, hgb⟩ := row_some h.ks (by simpa using Nat.lt_of_le_of_lt (Nat.zero_le _) hi)
  obtain ⟨tb, d, hvt, _, htb⟩ := row_some h.ts (by simpa using Nat.lt_of_le_of_lt (Nat.zero_le _) hi)
  have ci := h.atK hvk i hi
  have cj := h.atK hvk j hj
  have di := h.atT hvt i hi
  have dj := h.atT hvt j hj
  subst hvk
  subst hvt
  have hf := fun k => h.ks.frozenAt k
  have hf2 := fun k => h.ts.frozenAt k
  have hgt : gb ≠ tb := fun e => h.apart gb rfl (by rw [e]; rfl)
  obtain ⟨s1, f1⟩ := h.storedK (by simp) i (g l j).1
  obtain ⟨s2, f2⟩ := s1.storedK (by simp) j (g l i).1
  rw [fst_swp] at s2
  obtain ⟨s3, f3⟩ := s2.storedT (by simp) i (g l j).2
  obtain ⟨s4, f4⟩ := s3.storedT (by simp) j (g l i).2
  rw [snd_swp] at s4
  have F := ((f1.next f2 (fun _ _ e => e)).next f3 (fun _ _ e => e)).next f4 (fun _ _ e => e)
  by_cases hij : i = j
  · subst hij
    refine (columns_swap_eq w gb _ c tb _ d _ _ i (by simpa using hi) (by simpa using hi) hgb htb hgt ci di hf hf2).mono ?_
    rintro e w' ⟨rfl, q, rfl⟩
    exact ⟨rfl, (s4.alloc _).drewN q, (F.alloc _).drewN q⟩
  · refine (columns_swap_ne w gb _ c tb _ d _ _ _ _ i j (by simpa using hi) (by simpa using hj) (by simpa using hi) (by simpa using hj) hij hgb htb hgt ci cj di dj hf hf2).mono ?_
    rintro e w' ⟨rfl, q, rfl⟩
    exact ⟨rfl, (s4.alloc _).drewN q, (F.alloc _).drewN q⟩

theorem columns_less_own (h : KS B w hb vk vt (l.map Prod.fst) (l.map Prod.snd)) (i j : Nat) (hi : i < l.length) (hj : j < l.length) :
    Calls Try.prog 70 #[.agg #[vk, vt], .int .i64 i, .int .i64 j] w fun e w' => e = .returned (.bool (ltK (g l i) (g l j))) ∧ ∃ o q, w' = (w.alloc o).drewN q := by
  obtain ⟨gb, c, hvk, _, hgb⟩ := row_some h.ks (by simpa using Nat.lt_of_le_of_lt (Nat.zero_le _) hi)
  have ci := h.atK hvk i hi
  have cj := h.atK hvk j hj
  subst hvk
  refine (columns_less w gb _ c vt _ _ i j (by simpa using hi) (by simpa using hj) hgb ci cj).mono ?_
  rintro e w' ⟨rfl, q, rfl⟩
  exact ⟨rfl, _, q, rfl⟩

theorem columns_pop_own (h : KS B w hb vk vt (l.map Prod.fst) (l.map Prod.snd)) (hl : 0 < l.length) (hs : l.length < 4611686018427387904) :
    Calls Try.prog 71 #[.pointer (some ⟨hb, 0, none⟩)] w fun e w' => e = .returned (encI (g l (l.length - 1))) ∧
      ∃ vk' vt', KS B w' hb vk' vt' (l.dropLast.map Prod.fst) (l.dropLast.map Prod.snd) ∧ Frm (KX hb vk vt) w w' ∧ Lies w vk vk' ∧ Lies w vt vt' := by
  obtain ⟨n, hn⟩ : ∃ n, l.length = n + 1 := ⟨l.length - 1, by omega⟩
  obtain ⟨gb, c, hvk, hc, hgb⟩ := row_some h.ks (by simpa using hl)
  obtain ⟨tb, d, hvt, hd, htb⟩ := row_some h.ts (by simpa using hl)
  have ci := h.atK hvk n (by omega)
  have di := h.atT hvt n (by omega)
  have hK : (l.map Prod.fst).length = n + 1 := by simpa using hn
  have hT : (l.map Prod.snd).length = n + 1 := by simpa using hn
  have hok := h.ks
  have hot := h.ts
  rw [hK] at hvk hc hok
  rw [hT] at hvt hd hot
  subst hvk
  subst hvt
  obtain ⟨b0, b1, bf⟩ := CB.cells h.box
  have p1 := own_popN hok hK
  have p2 := own_popN hot hT
  have hne1 := own_ne h.ks h.box (by decide)
  have hne2 := own_ne h.ts h.box (by decide)
  have e1 : (l.map Prod.fst).dropLast = l.dropLast.map Prod.fst := by simp [List.map_dropLast]
  have e2 : (l.map Prod.snd).dropLast = l.dropLast.map Prod.snd := by simp [List.map_dropLast]
  rw [e1] at p1
  rw [e2] at p2
  rw [hn, Nat.add_sub_cancel]
  refine (columns_pop w hb gb n c tb d _ _ (by omega) hc hd b0 b1 bf ci di h.lt hgb htb).mono ?_
  rintro e w' ⟨rfl, q, rfl⟩
  refine ⟨rfl, _, _, KS.drewN (KS.alloc (vk := .slice (some ⟨gb, 0, none⟩) n c) (vt := .slice (some ⟨tb, 0, none⟩) n d) ⟨CB.set1 (CB.set0 h.box _) _, ?_, ?_, fun k hk => h.apart k hk, ?_, h.base⟩ _) q, ((((Frm.refl _ w).setCell (p := ⟨hb, 0, none⟩) (.inl rfl) _).setCell (p := ⟨hb, 1, none⟩) (.inl rfl) _).alloc _).drewN q, fun k hk => .inl hk, fun k hk => .inl hk⟩
  · rw [List.length_map, List.length_dropLast, hn, Nat.add_sub_cancel]
    exact ownsRow_setCell_other (a := ⟨hb, 1, none⟩) (ownsRow_setCell_other (a := ⟨hb, 0, none⟩) p1 (by simpa [Value.ownBlock] using hne1) _) (by simpa [Value.ownBlock] using hne1) _
  · rw [List.length_map, List.length_dropLast, hn, Nat.add_sub_cancel]
    exact ownsRow_setCell_other (a := ⟨hb, 1, none⟩) (ownsRow_setCell_other (a := ⟨hb, 0, none⟩) p2 (by simpa [Value.ownBlock] using hne2) _) (by simpa [Value.ownBlock] using hne2) _
  · have := h.low
    simpa [World.setCell] using this
end

section
variable {B : Nat} {w0 : World} {hb : Nat} {k0 t0 : Value} {N : Nat}
theorem RC.to {l l' : List It} {tr tr' : List Ev} {w w' : World} {vk vt vk' vt' : Value} (h : RC B w0 hb k0 t0 N l tr w) (l1 : Lies w0 k0 vk) (l2 : Lies w0 t0 vt) (hk : KS B w' hb vk' vt' (l'.map Prod.fst) (l'.map Prod.snd)) (f : Frm (KX hb vk vt) w w')
    (m1 : Lies w vk vk') (m2 : Lies w vt vt') (hl : l'.length ≤ N) : RC B w0 hb k0 t0 N l' tr' w' :=
  ⟨⟨vk', vt', hk, l1.trans m1 h.frm.size, l2.trans m2 h.frm.size⟩, KX.next h.frm f l1 l2, hl, h.few⟩

theorem columns_HI {M : Nat} : HI 61 (.pointer (some ⟨hb, 0, none⟩)) ltK M (RC B w0 hb k0 t0 N) where
  small := fun l tr w h => Nat.lt_of_le_of_lt h.size h.few
  len := fun l tr w h => by
    obtain ⟨vk, vt, hk, l1, l2⟩ := h.own
    obtain ⟨A, c, rfl⟩ := own_slice hk.ks
    refine ⟨43, _, run_method_ptr_val _ mcLen Try.underlying61 (load_columns hk.box), enters_of Try.func43 (by kernel_rfl) rfl, (columns_len w A _ c vt).mono ?_⟩
    rintro e w' ⟨rfl, rfl⟩
    exact ⟨by rw [List.length_map], h.to l1 l2 (hk.alloc _) ((Frm.refl _ _).alloc _) (Lies.refl _ _) (Lies.refl _ _) h.size⟩
  less := fun l tr w i j h hi hj _ => by
    obtain ⟨vk, vt, hk, l1, l2⟩ := h.own
    refine ⟨70, _, run_method_ptr_val _ mcLess Try.underlying61 (load_columns hk.box), enters_of Try.func70 (by kernel_rfl) rfl, (columns_less_own hk i j hi hj).mono ?_⟩
    rintro e w' ⟨rfl, o, q, rfl⟩
    exact ⟨rfl, h.to l1 l2 ((hk.alloc _).drewN q) (((Frm.refl _ _).alloc _).drewN q) (Lies.refl _ _) (Lies.refl _ _) h.size⟩
  swap := fun l tr w i j h hi hj _ => by
    obtain ⟨vk, vt, hk, l1, l2⟩ := h.own
    refine ⟨73, _, run_method_ptr_val _ mcSwap Try.underlying61 (load_columns hk.box), enters_of Try.func73 (by kernel_rfl) rfl, (columns_swap_own hk i j hi hj).mono ?_⟩
    rintro e w' ⟨rfl, hk', f'⟩
    exact ⟨rfl, h.to l1 l2 hk' f' (Lies.refl _ _) (Lies.refl _ _) (by rw [Hp.length_swp]; exact h.size)⟩

theorem columns_HPop {M : Nat} : HPop 61 (.pointer (some ⟨hb, 0, none⟩)) encI evI M (RC B w0 hb k0 t0 N) where
  pop := fun l tr w h hl _ => by
    obtain ⟨vk, vt, hk, l1, l2⟩ := h.own
    refine ⟨71, _, run_method_ptr _ mcPop Try.underlying61, enters_of Try.func71 (by kernel_rfl) rfl,
      (columns_pop_own hk hl (Nat.lt_of_le_of_lt h.size h.few)).mono ?_⟩
    rintro e w' ⟨rfl, vk', vt', hk', f', m1, m2⟩
    exact ⟨rfl, h.to l1 l2 hk' f' m1 m2 (by rw [List.length_dropLast]; have := h.size; omega)⟩

theorem columns_HPush (hN : N ≤ 26388279066624) {M : Nat} : HPush 61 (.pointer (some ⟨hb, 0, none⟩)) encI evI M N (RC B w0 hb k0 t0 N) where
  push := fun l tr w x h hl _ => by
    obtain ⟨vk, vt, hk, l1, l2⟩ := h.own
    refine ⟨72, _, run_method_ptr _ mcPush Try.underlying61, enters_of Try.func72 (by kernel_rfl) rfl,
      (columns_push hk x (by rw [List.length_map]; omega) (by rw [List.length_map]; omega)).mono ?_⟩
    rintro e w' ⟨rfl, vk', vt', hk', f', m1, m2⟩
    rw [show l.map Prod.fst ++ [x.1] = (l ++ [x]).map Prod.fst by simp, show l.map Prod.snd ++ [x.2] = (l ++ [x]).map Prod.snd by simp] at hk'
    exact ⟨rfl, h.to l1 l2 hk' f' m1 m2 (by rw [List.length_append]; simp; omega)⟩
end
end Go.Proofs.Ytadacjndepkfeaa
