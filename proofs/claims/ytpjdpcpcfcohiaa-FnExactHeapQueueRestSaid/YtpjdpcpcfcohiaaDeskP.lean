/-
  impl's type desk: a new entry. Conditions: memory holds the desk.
-/
import Derived.Test.YtpjdpcpcfcohiaaDesk
namespace Go.Proofs.Ytpjdpcpcfcohiaa
open Go.RowKit Go.Shelf
open Hp (g swp Ev St ix nums QV ltQ)

section
variable {B : Nat} {w : World} {db : Nat} {vq va vo : Value} {E : List Nat} {K : List Int} {l : List (Int × Int)} {out : List It}

/-- A new entry is kept among all. -/
theorem DS.entered (h : DS B w db vq va vo E K l out) (k : Int) {n0 : Nat} (hn0 : n0 = E.length) (o : Obj) {w3 : World} {va' : Value} (ho : w3.ownsRow B 67 1 va' (E.length + 1) (E.map ptr ++ [ptr w.heap.size]))
    (hg : ((w.drew.alloc (EC k (n0 : Int) 0)).alloc o).grownBy w3 va.ownBlock) (hl : va'.ownBlock = va.ownBlock ∨ va'.ownBlock = some ((w.drew.alloc (EC k (n0 : Int) 0)).alloc o).heap.size) :
    w3.heap[db]? = some (DK vq va vo) ∧ D0 B (w3.setCell ⟨db, 1, none⟩ va') db vq va' vo (E ++ [w.heap.size]) out ∧ Ents E K (ix l) (w3.setCell ⟨db, 1, none⟩ va') ∧ (w3.setCell ⟨db, 1, none⟩ va').heap[w.heap.size]? = some (EC k (E.length : Int) 0) ∧
      (w3.setCell ⟨db, 1, none⟩ va').ownsRow B 67 1 vq l.length (clsP (E ++ [w.heap.size]) l) ∧ Below B w (w3.setCell ⟨db, 1, none⟩ va') := by
  subst hn0
  have hb := h.base
  have hlt := lt_of_block hb.box
  have hsz : ((w.drew.alloc (EC k (E.length : Int) 0)).alloc o).heap.size = w.heap.size + 2 := by simp
  have hw2 : Frm (fun i => va.ownBlock = some i) w ((w.drew.alloc (EC k (E.length : Int) 0)).alloc o) := ((Frm.refl _ w).drew.alloc _).alloc _
  have hf3 : Frm (fun i => va.ownBlock = some i) w w3 := frm_grown hw2 hg (fun _ e => e)
  have hbx : w3.heap[db]? = some (DK vq va vo) := by rw [hf3.block db hlt hb.adb]; exact hb.box
  have hf : Frm (fun i => i = db ∨ va.ownBlock = some i) w (w3.setCell ⟨db, 1, none⟩ va') := Frm.setCell (X := fun i => i = db ∨ va.ownBlock = some i) (p := ⟨db, 1, none⟩) (hf3.mono (fun i _ e => .inr e)) (.inl rfl) _
  have hen3 : w3.heap[w.heap.size]? = some (EC k (E.length : Int) 0) := by
    rw [hg.block w.heap.size (by rw [hsz]; omega) (fun e => by have := (hb.all.lt _ e.symm).2; omega)]
    rw [Below.heap_alloc _ _ _ (by simp)]
    exact heap_alloc_new w.drew _
  have hen : (w3.setCell ⟨db, 1, none⟩ va').heap[w.heap.size]? = some (EC k (E.length : Int) 0) := by
    rw [Below.heap_setCell _ _ _ _ (by simp; omega)]; exact hen3
  have he : Ents E K (ix l) (w3.setCell ⟨db, 1, none⟩ va') := h.ent.frm hf (fun n hn e => by
    rcases e with e | e
    · exact hb.dbe (by rw [← e]; exact Hp.mem_g hn)
    · exact hb.ae _ e (Hp.mem_g hn))
  have hq : (w3.setCell ⟨db, 1, none⟩ va').ownsRow B 67 1 vq l.length (clsP E l) := own_frm h.q hf (fun j hj e => by
    rcases e with e | e
    · exact hb.qdb (by rw [hj, e])
    · exact hb.apart j hj e)
  have hcl : clsP E l = clsP (E ++ [w.heap.size]) l := clsP_congr (fun p hp => by
    obtain ⟨h1, h2, _⟩ := h.ok.mem p hp
    unfold eb
    rw [Hp.g_append_left (by omega)])
  rw [hcl] at hq
  have hlE : ∀ e ∈ E, e < w.heap.size := fun e hm => by
    obtain ⟨m, hm, e2⟩ := Hp.g_of_mem hm
    rw [← e2]
    exact lt_of_block (h.ent m hm)
  refine ⟨hbx, ⟨DK.set1 hbx _, ⟨_, _, hq⟩, ?_, ?_, ?_, ⟨K ++ [k], fun n => if n = (E.length : Int) then 0 else ix l n, ?_⟩, ?_, Nat.le_trans hb.low hf.size, hb.lowb, ?_⟩, he, hen, hq, hf.below hb.low ?_⟩
  · rw [List.length_append, List.map_append]
    exact ownsRow_setCell_other (a := ⟨db, 1, none⟩) ho (own_ne ho hbx (by decide)) _
  · exact own_frm hb.out hf (fun j hj e => by
      rcases e with e | e
      · exact hb.odb (by rw [hj, e])
      · exact hb.ao j e hj)
  · intro j hj hj2
    rcases hl with e | e
    · exact hb.apart j hj (by rw [← e]; exact hj2)
    · rw [e, hsz] at hj2
      have := (h.q.lt j hj).2
      injection hj2 with hj2
      omega
  · intro n hn
    rw [List.length_append] at hn
    show _ = some (EC _ _ (if (n : Int) = (E.length : Int) then 0 else ix l n))
    by_cases e : n < E.length
    · rw [Hp.g_append_left e, Hp.g_append_left (by rw [h.kl]; exact e), if_neg (by omega)]
      exact he n e
    · have e2 : n = E.length := by simp at hn; omega
      subst e2
      have e3 : g (K ++ [k]) E.length = k := by rw [← h.kl, Hp.g_append_last]
      rw [Hp.g_append_last, e3, if_pos rfl]
      exact hen
  · rw [List.nodup_append]
    exact ⟨hb.inj, by simp, fun a ha b hb2 e => by simp at hb2; have := hlE a ha; omega⟩
  · intro e he2
    rcases List.mem_append.1 he2 with e2 | e2
    · exact hb.lowe e e2
    · have e3 : e = w.heap.size := by simpa using e2
      rw [e3]; exact hb.low
  · rintro i (e | e)
    · rw [e]; exact hb.lowb
    · exact (hb.all.lt i e).1

/-- The new entry has been put behind the others. -/
theorem D0.pushed {e1 : Nat} {k : Int} {w' : World} {v' : Value} (h : D0 B w db vq va vo (E ++ [e1]) out) (hn : (E ++ [e1]).length < 4611686018427387904) (hent : Ents E K (ix l) w) (hok : QV E.length K l) (hk : K.length = E.length)
    (hb : w'.heap[db]? = some (DK v' va vo)) (ho : w'.ownsRow B 67 1 v' (l.length + 1) (clsP (E ++ [e1]) l ++ [ptr e1])) (hx : w'.heap[e1]? = some (EC k (E.length : Int) (l.length : Int))) (hf : Frm (fun i => i = db ∨ vq.ownBlock = some i ∨ i = e1) w w') (hl : Lies w vq v') :
    RQ B w db vq va vo (E ++ [e1]) (K ++ [k]) (l ++ [(k, (E.length : Int))]) [] w' := by
  obtain ⟨hq, hnm⟩ := hok.push hk k
  have hone : eb (E ++ [e1]) (E.length : Int) = e1 := by unfold eb; rw [Int.toNat_natCast, Hp.g_append_last]
  refine ⟨⟨v', hb, ?_, hl⟩, ?_, by rw [List.length_append]; exact hq, hf.mono ?_, h.inj, hn⟩
  · rw [List.length_append, clsP_append]
    show w'.ownsRow _ _ _ _ _ (clsP (E ++ [e1]) l ++ [ptr (eb (E ++ [e1]) (E.length : Int))])
    rw [hone]
    exact ho
  · intro n hn2
    rw [List.length_append] at hn2
    rw [Hp.ix_append hok.nod hnm]
    by_cases e : n < E.length
    · rw [Hp.g_append_left e, Hp.g_append_left (by rw [hk]; exact e), if_neg (by simp; omega)]
      rw [hf.block (g E n) (lt_of_block (hent n e)) ?_]
      · exact hent n e
      · have hm : g E n ∈ E := Hp.mem_g e
        rintro (e' | e' | e')
        · exact h.dbe (by rw [← e']; exact List.mem_append_left _ hm)
        · exact h.qe _ e' (List.mem_append_left _ hm)
        · have := (List.nodup_append.1 h.inj).2.2 _ hm e1 (by simp)
          exact this e'
    · have e2 : n = E.length := by simp at hn2; omega
      subst e2
      have e3 : g (K ++ [k]) E.length = k := by rw [← hk, Hp.g_append_last]
      rw [Hp.g_append_last, e3, if_pos rfl]
      exact hx
  · rintro i _ (e | e | e)
    · exact .inl e
    · exact .inr (.inl e)
    · exact .inr (.inr (by rw [e]; simp))
end
end Go.Proofs.Ytpjdpcpcfcohiaa
