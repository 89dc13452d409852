/-
  impl's type queue as an implementation of heap.Interface. Condition: memory holds the queue (RQ).
-/
import Derived.Test.YtpjdpcpcfcohiaaQueueM
namespace Go.Proofs.Ytpjdpcpcfcohiaa
open Go.RowKit Go.Shelf
open Hp (g swp Ev ix nums QV ltQ)

/-- The blocks that a queue may change: the desk's, that of its row, and those of the entries. -/
def QX (db : Nat) (v : Value) (E : List Nat) (i : Nat) : Prop := i = db ∨ v.ownBlock = some i ∨ i ∈ E
/-- A desk's block. -/
def DK (vq va vo : Value) : Obj := .cells #[vq, va, vo] 62 (0, 0)
theorem DK.cells {w : World} {b : Nat} {vq va vo : Value} (h : w.heap[b]? = some (DK vq va vo)) : w.cell? ⟨b, 0, none⟩ = some vq ∧ w.cell? ⟨b, 1, none⟩ = some va ∧ w.cell? ⟨b, 2, none⟩ = some vo ∧ ∀ j, w.frozen? ⟨b, j, none⟩ = false := by
  unfold DK at h
  refine ⟨by simp [World.cell?, h], by simp [World.cell?, h], by simp [World.cell?, h], fun j => by simp [World.frozen?, h]⟩
theorem DK.set0 {w : World} {b : Nat} {vq va vo : Value} (h : w.heap[b]? = some (DK vq va vo)) (u : Value) : (w.setCell ⟨b, 0, none⟩ u).heap[b]? = some (DK u va vo) := by
  unfold DK at h ⊢
  rw [heap_setCell_same _ _ _ _ _ _ h]
  rfl
theorem DK.set1 {w : World} {b : Nat} {vq va vo : Value} (h : w.heap[b]? = some (DK vq va vo)) (u : Value) : (w.setCell ⟨b, 1, none⟩ u).heap[b]? = some (DK vq u vo) := by
  unfold DK at h ⊢
  rw [heap_setCell_same _ _ _ _ _ _ h]
  rfl
theorem DK.set2 {w : World} {b : Nat} {vq va vo : Value} (h : w.heap[b]? = some (DK vq va vo)) (u : Value) : (w.setCell ⟨b, 2, none⟩ u).heap[b]? = some (DK vq va u) := by
  unfold DK at h ⊢
  rw [heap_setCell_same _ _ _ _ _ _ h]
  rfl

/-- The queue of a desk: what memory holds; all other blocks are as w0 has them. -/
structure RQ (B : Nat) (w0 : World) (db : Nat) (v0 va vo : Value) (E : List Nat) (K : List Int) (l : List (Int × Int)) (_tr : List Ev) (w : World) : Prop where
  own : ∃ v, w.heap[db]? = some (DK v va vo) ∧ w.ownsRow B 67 1 v l.length (clsP E l) ∧ Lies w0 v0 v
  ent : Ents E K (ix l) w
  ok : QV E.length K l
  frm : Frm (QX db v0 E) w0 w
  inj : E.Nodup
  few : E.length < 4611686018427387904

theorem mthLen : (Try.prog.info? 71).bind (fun i => (i.methods.find? (·.name == "Len")).map (fun m => (m.path, m.func))) = some (#[], some (70, false)) := by kernel_rfl
theorem mthLess : (Try.prog.info? 71).bind (fun i => (i.methods.find? (·.name == "Less")).map (fun m => (m.path, m.func))) = some (#[], some (71, false)) := by kernel_rfl
theorem mthSwap : (Try.prog.info? 71).bind (fun i => (i.methods.find? (·.name == "Swap")).map (fun m => (m.path, m.func))) = some (#[], some (72, false)) := by kernel_rfl
theorem mthPop : (Try.prog.info? 71).bind (fun i => (i.methods.find? (·.name == "Pop")).map (fun m => (m.path, m.func))) = some (#[], some (73, true)) := by kernel_rfl
theorem mthPush : (Try.prog.info? 71).bind (fun i => (i.methods.find? (·.name == "Push")).map (fun m => (m.path, m.func))) = some (#[], some (74, true)) := by kernel_rfl

section
variable {B : Nat} {w0 : World} {db : Nat} {v0 va vo : Value} {E : List Nat} {K : List Int}

theorem queue_less_own {w : World} {v : Value} {l : List (Int × Int)} (h : w.ownsRow B 67 1 v l.length (clsP E l)) (he : Ents E K (ix l) w) (hq : QV E.length K l) (i j : Nat) (hi : i < l.length) (hj : j < l.length) :
    Calls Try.prog 71 #[v, .int .i64 i, .int .i64 j] w fun e w' => e = .returned (.bool (ltQ (g l i) (g l j))) ∧ ∃ q, w' = w.drewN q := by
  obtain ⟨gb, cap, rfl⟩ : ∃ gb cap, v = .slice (some ⟨gb, 0, none⟩) l.length cap := by
    rcases h.2 with ⟨_, h0⟩ | ⟨gb, cap, cur, hv, _⟩
    · omega
    · exact ⟨gb, cap, hv⟩
  have ci := (h.cellAt _ (by omega)).trans (clsP_at E l i hi)
  have cj := (h.cellAt _ (by omega)).trans (clsP_at E l j hj)
  obtain ⟨m1, hm1, _, e1, b1⟩ := he.mem hq rfl hi
  obtain ⟨m2, hm2, _, e2, b2⟩ := he.mem hq rfl hj
  obtain ⟨p1, p2, _, _⟩ := EC.cells b1
  obtain ⟨q1, q2, _, _⟩ := EC.cells b2
  rw [e1] at ci
  rw [e2] at cj
  unfold ptr at ci cj
  rw [Hp.ltQ_eq]
  by_cases hk : (g l i).1 = (g l j).1
  · rw [if_pos hk]
    rw [← hk] at q1
    exact queue_less_eq w gb l.length cap _ _ _ _ _ i j hi hj ci cj p1 q1 p2 q2
  · rw [if_neg hk]
    exact queue_less_ne w gb l.length cap _ _ _ _ i j hi hj ci cj p1 q1 (by simpa using hk)

theorem queue_swap_own {w : World} {v : Value} {l : List (Int × Int)} (h : w.ownsRow B 67 1 v l.length (clsP E l)) (he : Ents E K (ix l) w) (hq : QV E.length K l) (hE : E.Nodup) (i j : Nat) (hi : i < l.length) (hj : j < l.length) :
    Calls Try.prog 72 #[v, .int .i64 i, .int .i64 j] w fun e w' => e = .returned (.tuple #[]) ∧ w'.ownsRow B 67 1 v (swp l i j).length (clsP E (swp l i j)) ∧ Ents E K (ix (swp l i j)) w' ∧ Frm (fun k => v.ownBlock = some k ∨ k ∈ E) w w' := by
  obtain ⟨gb, cap, rfl⟩ : ∃ gb cap, v = .slice (some ⟨gb, 0, none⟩) l.length cap := by
    rcases h.2 with ⟨_, h0⟩ | ⟨gb, cap, cur, hv, _⟩
    · omega
    · exact ⟨gb, cap, hv⟩
  have ci := (h.cellAt _ (by omega)).trans (clsP_at E l i hi)
  have cj := (h.cellAt _ (by omega)).trans (clsP_at E l j hj)
  have hf := fun k => h.frozenAt k
  have hown := ((h.stored i (ptr (eb E (g l j).2))).1.stored j (ptr (eb E (g l i).2))).1
  rw [← clsP_set, ← clsP_set] at hown
  obtain ⟨m1, hm1, n1, e1, b1⟩ := he.mem hq rfl hi
  obtain ⟨m2, hm2, n2, e2, b2⟩ := he.mem hq rfl hj
  have hne := he.ne_own h (by decide)
  have hg : ∀ m, m < E.length → gb ≠ g E m := fun m hm e => hne m hm (by simp [Value.ownBlock, e])
  obtain ⟨_, _, p3, pf⟩ := EC.cells b1
  obtain ⟨_, _, q3, qf⟩ := EC.cells b2
  rw [e1] at ci hown
  rw [e2] at cj hown
  have he1 : Ents E K (ix l) ((w.setCell ⟨gb, i, none⟩ (ptr (g E m2))).setCell ⟨gb, j, none⟩ (ptr (g E m1))) := (he.other _ (fun n hn => (hg n hn).symm)).other _ (fun n hn => (hg n hn).symm)
  have he2 := (he1.index hE hm2 (i : Int)).index hE hm1 (j : Int)
  have he3 : Ents E K (ix (swp l i j)) _ := he2.congr (fun n hn => by
    rw [Hp.ix_swp hq.nod hi hj, n1, n2])
  have mE : ∀ m, m < E.length → g E m ∈ E := fun m hm => Hp.mem_g hm
  have hF : Frm (fun k => (Value.slice (some ⟨gb, 0, none⟩) l.length cap).ownBlock = some k ∨ k ∈ E) w ((((w.setCell ⟨gb, i, none⟩ (ptr (g E m2))).setCell ⟨gb, j, none⟩ (ptr (g E m1))).setCell ⟨g E m2, 2, none⟩ (.int .i64 i)).setCell ⟨g E m1, 2, none⟩ (.int .i64 j)) :=
    ((((Frm.refl _ w).setCell (.inl rfl) _).setCell (.inl rfl) _).setCell (.inr (mE m2 hm2)) _).setCell (.inr (mE m1 hm1)) _
  have ho2 := ownsRow_setCell_other (a := ⟨g E m1, 2, none⟩) (ownsRow_setCell_other (a := ⟨g E m2, 2, none⟩) hown (hne m2 hm2) (.int .i64 i)) (hne m1 hm1) (.int .i64 j)
  unfold ptr at ci cj
  by_cases hij : i = j
  · subst hij
    have hm : m1 = m2 := by omega
    subst hm
    refine (queue_swap_eq w gb l.length cap _ _ i hi (hg m1 hm1) ci p3 hf (pf 2)).mono ?_
    rintro e w' ⟨rfl, q, rfl⟩
    exact ⟨rfl, by rw [Hp.length_swp]; exact ownsRow_drewN ho2 q, he3, hF.drewN q⟩
  · have h12 : g E m1 ≠ g E m2 := by
      intro e
      rw [← Hp.g_eq hm1, ← Hp.g_eq hm2] at e
      have := (List.getElem_inj hE).1 e
      exact hij (Hp.num_inj hq.nod hi hj (by omega))
    refine (queue_swap_ne w gb l.length cap _ _ _ _ i j hi hj hij h12 (hg m1 hm1) (hg m2 hm2) ci cj p3 q3 hf (pf 2) (qf 2)).mono ?_
    rintro e w' ⟨rfl, q, rfl⟩
    exact ⟨rfl, by rw [Hp.length_swp]; exact ownsRow_drewN ho2 q, he3, hF.drewN q⟩

theorem RQ.frmQ {w w' : World} {v : Value} (h : Frm (QX db v0 E) w0 w) (hl : Lies w0 v0 v) (hf : Frm (fun k => k = db ∨ v.ownBlock = some k ∨ k ∈ E) w w') : Frm (QX db v0 E) w0 w' :=
  h.next hf (fun i hi e => by
    rcases e with e | e | e
    · exact .inl e
    · rcases hl i e with h1 | h1
      · exact .inr (.inl h1)
      · omega
    · exact .inr (.inr e))

theorem queue_HI {M : Nat} : HI 71 (.pointer (some ⟨db, 0, none⟩)) ltQ M (RQ B w0 db v0 va vo E K) where
  small := fun l tr w h => Nat.lt_of_le_of_lt h.ok.few h.few
  len := fun l tr w h => by
    obtain ⟨v, hv, ho, _⟩ := h.own
    obtain ⟨A, c, rfl⟩ := own_slice ho
    refine ⟨70, _, run_method_ptr_val _ mthLen Try.underlying71 (run_loadVar_slice Try.underlying60 (DK.cells hv).1), enters_of Try.func70 (by kernel_rfl) rfl, (queue_len w A _ c).mono ?_⟩
    rintro e w' ⟨rfl, rfl⟩
    exact ⟨rfl, h⟩
  less := fun l tr w i j h hi hj _ => by
    obtain ⟨v, hv, ho, hlie⟩ := h.own
    have hcl := queue_less_own ho h.ent h.ok i j hi hj
    obtain ⟨A, c, rfl⟩ := own_slice ho
    refine ⟨71, _, run_method_ptr_val _ mthLess Try.underlying71 (run_loadVar_slice Try.underlying60 (DK.cells hv).1), enters_of Try.func71 (by kernel_rfl) rfl, hcl.mono ?_⟩
    rintro e w' ⟨rfl, q, rfl⟩
    exact ⟨rfl, ⟨⟨_, hv, ownsRow_drewN ho q, hlie⟩, h.ent, h.ok, h.frm.drewN q, h.inj, h.few⟩⟩
  swap := fun l tr w i j h hi hj _ => by
    obtain ⟨v, hv, ho, hlie⟩ := h.own
    have hcl := queue_swap_own ho h.ent h.ok h.inj i j hi hj
    have hnd := own_ne ho hv (by decide)
    have hne := h.ent.ne hv (by decide)
    obtain ⟨A, c, rfl⟩ := own_slice ho
    refine ⟨72, _, run_method_ptr_val _ mthSwap Try.underlying71 (run_loadVar_slice Try.underlying60 (DK.cells hv).1), enters_of Try.func72 (by kernel_rfl) rfl, hcl.mono ?_⟩
    rintro e w' ⟨rfl, ho', he', hf'⟩
    refine ⟨rfl, ⟨_, ?_, ho', hlie⟩, he', h.ok.swp hi hj, RQ.frmQ h.frm hlie (hf'.mono (fun i _ e => .inr e)), h.inj, h.few⟩
    rw [hf'.block db (lt_of_block hv) ?_]
    · exact hv
    · rintro (e | e)
      · exact hnd e
      · obtain ⟨m, hm, e2⟩ := Hp.g_of_mem e
        exact hne m hm e2
/-- An entry as an interface value. -/
def encE (E : List Nat) (p : Int × Int) : Value := .iface 67 (ptr (eb E p.2))
def evE (p : Int × Int) : Int × Int := p

theorem own_popP {w : World} {gb n c : Nat} {l : List (Int × Int)} (h : w.ownsRow B 67 1 (.slice (some ⟨gb, 0, none⟩) (n + 1) c) (n + 1) (clsP E l)) (hl : l.length = n + 1) :
    w.ownsRow B 67 1 (.slice (some ⟨gb, 0, none⟩) n c) n (clsP E l.dropLast) := by
  refine ⟨by rw [length_clsP, List.length_dropLast, hl]; omega, ?_⟩
  rcases h.2 with ⟨hv, h0⟩ | ⟨g', cap, cur, hv, hb, hh, hnc, hcm, hcs, ht⟩
  · omega
  · injection hv with hv1 _ hv3
    injection hv1 with hv1
    injection hv1 with hv1 _ _
    subst hv1
    subst hv3
    refine .inr ⟨gb, c, cur, rfl, hb, hh, by omega, hcm, hcs, ?_⟩
    rw [clsP_dropLast, hl, ← ht, List.take_take, Nat.add_sub_cancel, Nat.min_eq_left (by omega), Nat.mul_one]

theorem queue_HPop {M : Nat} : HPop 71 (.pointer (some ⟨db, 0, none⟩)) (encE E) evE M (RQ B w0 db v0 va vo E K) where
  pop := fun l tr w h hl _ => by
    obtain ⟨v, hv, ho, hlie⟩ := h.own
    have hnd := own_ne ho hv (by decide)
    have hne := h.ent.ne hv (by decide)
    have hno := h.ent.ne_own ho (by decide)
    obtain ⟨n, hn⟩ : ∃ n, l.length = n + 1 := ⟨l.length - 1, by omega⟩
    obtain ⟨gb, cap, rfl, hcap⟩ : ∃ gb cap, v = .slice (some ⟨gb, 0, none⟩) l.length cap ∧ l.length ≤ cap := by
      rcases ho.2 with ⟨_, h0⟩ | ⟨gb, cap, cur, hv, _, _, hc, _⟩
      · omega
      · exact ⟨gb, cap, hv, hc⟩
    have c1 := (ho.cellAt n (by omega)).trans (clsP_at E l n (by omega))
    have hsm := Nat.lt_of_le_of_lt h.ok.few h.few
    obtain ⟨m1, hm1, n1, e1, b1⟩ := h.ent.mem h.ok rfl (i := n) (by omega)
    obtain ⟨_, _, p3, pf⟩ := EC.cells b1
    obtain ⟨d0, _, _, df⟩ := DK.cells hv
    have hix := fun k => Hp.ix_dropLast h.ok.nod hl k
    unfold encE
    rw [e1] at c1
    unfold ptr at c1
    rw [hn, Nat.add_sub_cancel] at hix
    rw [hn] at hv ho hcap hnd hsm hno d0 ⊢
    rw [Nat.add_sub_cancel, e1]
    refine ⟨73, _, run_method_ptr _ mthPop Try.underlying71, enters_of Try.func73 (by kernel_rfl) rfl,
      (queue_pop w db gb n cap _ _ hsm hcap d0 (df 0) c1 p3 (pf 2) (hne m1 hm1)).mono ?_⟩
    rintro e w' ⟨rfl, rfl⟩
    have hv1 : (w.setCell ⟨g E m1, 2, none⟩ (.int .i64 (-1))).heap[db]? = some (DK (.slice (some ⟨gb, 0, none⟩) (n + 1) cap) va vo) := by
      rw [Below.heap_setCell _ _ _ _ (fun e => hne m1 hm1 e.symm)]; exact hv
    refine ⟨rfl, ⟨_, DK.set0 hv1 _, ?_, fun k hk => hlie k hk⟩, ?_, h.ok.drop, ?_, h.inj, h.few⟩
    · rw [List.length_dropLast, hn, Nat.add_sub_cancel]
      exact ownsRow_setCell_other (a := ⟨db, 0, none⟩) (ownsRow_setCell_other (a := ⟨g E m1, 2, none⟩) (own_popP ho hn) (by simpa [Value.ownBlock] using hno m1 hm1) _) (by simpa [Value.ownBlock] using hnd) _
    · refine ((h.ent.index h.inj hm1 (-1)).other _ (fun k hk => hne k hk)).congr (fun k hk => ?_)
      rw [hix, n1]
    · exact RQ.frmQ h.frm hlie (((Frm.refl _ w).setCell (p := ⟨g E m1, 2, none⟩) (.inr (.inr (Hp.mem_g hm1))) _).setCell (p := ⟨db, 0, none⟩) (.inl rfl) _)
end
end Go.Proofs.Ytpjdpcpcfcohiaa
