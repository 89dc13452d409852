/-
  impl's type desk: what memory holds of a queue under way; its method gone. Conditions: memory holds what it reads; the list that grows stays within what append can bear.
-/
import Derived.Test.YtpjdpcpcfcohiaaQueueP
import Derived.Test.YtpjdpcpcfcohiaaHeapFix
import Derived.Test.YtpjdpcpcfcohiaaHeapInit
import Derived.Test.YtpjdpcpcfcohiaaHeapRem
import Derived.Test.YtpjdpcpcfcohiaaHeapPop
namespace Go.Proofs.Ytpjdpcpcfcohiaa
open Go.RowKit Go.Shelf
open Hp (g swp Ev St ix nums QV ltQ)

/-- A desk without its queue: the other lists, and what is apart. -/
structure D0 (B : Nat) (w : World) (db : Nat) (vq va vo : Value) (E : List Nat) (out : List It) : Prop where
  box : w.heap[db]? = some (DK vq va vo)
  row : ∃ n xs, w.ownsRow B 67 1 vq n xs
  all : w.ownsRow B 67 1 va E.length (E.map ptr)
  out : w.ownsRow B 34 2 vo out.length (cls out)
  apart : ∀ k, vq.ownBlock = some k → va.ownBlock ≠ some k
  typed : ∃ K f, Ents E K f w
  inj : E.Nodup
  low : B ≤ w.heap.size
  lowb : B ≤ db
  lowe : ∀ e ∈ E, B ≤ e
/-- A desk. -/
structure DS (B : Nat) (w : World) (db : Nat) (vq va vo : Value) (E : List Nat) (K : List Int) (l : List (Int × Int)) (out : List It) : Prop where
  base : D0 B w db vq va vo E out
  q : w.ownsRow B 67 1 vq l.length (clsP E l)
  ent : Ents E K (ix l) w
  ok : QV E.length K l
  kl : K.length = E.length

section
variable {B : Nat} {w w' : World} {db : Nat} {vq va vo : Value} {E : List Nat} {K : List Int} {l : List (Int × Int)} {out : List It}

theorem D0.qdb (h : D0 B w db vq va vo E out) : vq.ownBlock ≠ some db := by obtain ⟨n, xs, ho⟩ := h.row; exact own_ne ho h.box (by decide)
theorem D0.adb (h : D0 B w db vq va vo E out) : va.ownBlock ≠ some db := own_ne h.all h.box (by decide)
theorem D0.odb (h : D0 B w db vq va vo E out) : vo.ownBlock ≠ some db := own_ne h.out h.box (by decide)
theorem D0.qo (h : D0 B w db vq va vo E out) : ∀ k, vq.ownBlock = some k → vo.ownBlock ≠ some k := by obtain ⟨n, xs, ho⟩ := h.row; exact own_apart ho h.out (by decide)
theorem D0.ao (h : D0 B w db vq va vo E out) : ∀ k, va.ownBlock = some k → vo.ownBlock ≠ some k := own_apart h.all h.out (by decide)
theorem D0.qe (h : D0 B w db vq va vo E out) : ∀ k, vq.ownBlock = some k → k ∉ E := by
  obtain ⟨n, xs, ho⟩ := h.row
  obtain ⟨K, f, he⟩ := h.typed
  intro k hk hm
  obtain ⟨m, hm, e⟩ := Hp.g_of_mem hm
  exact he.ne_own ho (by decide) m hm (by rw [e]; exact hk)
theorem D0.ae (h : D0 B w db vq va vo E out) : ∀ k, va.ownBlock = some k → k ∉ E := by
  obtain ⟨K, f, he⟩ := h.typed
  intro k hk hm
  obtain ⟨m, hm, e⟩ := Hp.g_of_mem hm
  exact he.ne_own h.all (by decide) m hm (by rw [e]; exact hk)
theorem D0.oe (h : D0 B w db vq va vo E out) : ∀ k, vo.ownBlock = some k → k ∉ E := by
  obtain ⟨K, f, he⟩ := h.typed
  intro k hk hm
  obtain ⟨m, hm, e⟩ := Hp.g_of_mem hm
  exact he.ne_own h.out (by decide) m hm (by rw [e]; exact hk)
theorem D0.dbe (h : D0 B w db vq va vo E out) : db ∉ E := by
  obtain ⟨K, f, he⟩ := h.typed
  intro hm
  obtain ⟨m, hm, e⟩ := Hp.g_of_mem hm
  exact he.ne h.box (by decide) m hm e
theorem D0.new (h : D0 B w db vq va vo E out) (hw : Below w.heap.size w w') : D0 B w' db vq va vo E out := by
  have f : Frm (fun _ => False) w w' := Frm.of_new hw
  obtain ⟨n, xs, ho⟩ := h.row
  obtain ⟨K, f', he⟩ := h.typed
  refine ⟨?_, ⟨n, xs, own_frm ho f (fun _ _ e => e)⟩, own_frm h.all f (fun _ _ e => e), own_frm h.out f (fun _ _ e => e), h.apart, ⟨K, f', he.frm f (fun _ _ e => e)⟩, h.inj, Nat.le_trans h.low hw.size, h.lowb, h.lowe⟩
  rw [hw.block db (lt_of_block h.box)]; exact h.box
theorem DS.new (h : DS B w db vq va vo E K l out) (hw : Below w.heap.size w w') : DS B w' db vq va vo E K l out := by
  have f : Frm (fun _ => False) w w' := Frm.of_new hw
  exact ⟨h.base.new hw, own_frm h.q f (fun _ _ e => e), h.ent.frm f (fun _ _ e => e), h.ok, h.kl⟩
theorem DS.rq (h : DS B w db vq va vo E K l out) (hn : E.length < 4611686018427387904) : RQ B w db vq va vo E K l [] w :=
  ⟨⟨vq, h.base.box, h.q, Lies.refl _ _⟩, h.ent, h.ok, Frm.refl _ _, h.base.inj, hn⟩
/-- After a call of the library. -/
theorem D0.moved {w2 : World} {l' : List (Int × Int)} {tr : List Ev} (h : D0 B w db vq va vo E out) (hk : K.length = E.length) (hr : RQ B w db vq va vo E K l' tr w2) : ∃ vq', DS B w2 db vq' va vo E K l' out ∧ Below B w w2 := by
  obtain ⟨v, hv, ho, hl⟩ := hr.own
  have hf := hr.frm
  refine ⟨v, ⟨⟨hv, ⟨_, _, ho⟩, own_frm h.all hf ?_, own_frm h.out hf ?_, ?_, ⟨_, _, hr.ent⟩, h.inj, Nat.le_trans h.low hf.size, h.lowb, h.lowe⟩, ho, hr.ent, hr.ok, hk⟩, hf.below h.low ?_⟩
  · rintro k hk (e | e | e)
    · exact h.adb (by rw [hk, e])
    · exact h.apart k e hk
    · exact h.ae k hk e
  · rintro k hk (e | e | e)
    · exact h.odb (by rw [hk, e])
    · exact h.qo k e hk
    · exact h.oe k hk e
  · intro k hk hak
    rcases hl k hk with e | e
    · exact h.apart k e hak
    · have := (h.all.lt k hak).2
      omega
  · rintro i (e | e | e)
    · rw [e]; exact h.lowb
    · obtain ⟨n, xs, ho⟩ := h.row; exact (ho.lt i e).1
    · exact h.lowe i e
theorem DS.moved {w2 : World} {l' : List (Int × Int)} {tr : List Ev} (h : DS B w db vq va vo E K l out) (hr : RQ B w db vq va vo E K l' tr w2) : ∃ vq', DS B w2 db vq' va vo E K l' out ∧ Below B w w2 := h.base.moved h.kl hr
/-- After an entry has left. -/
theorem DS.left {vo' : Value} {x : It} (h : DS B w db vq va vo E K l out) (hb : w'.heap[db]? = some (DK vq va vo')) (ho : w'.ownsRow B 34 2 vo' (out.length + 1) (cls (out ++ [x]))) (hf : Frm (fun i => i = db ∨ vo.ownBlock = some i) w w') :
    DS B w' db vq va vo' E K l (out ++ [x]) ∧ Below B w w' := by
  have hq := h.base.qdb
  have he : Ents E K (ix l) w' := h.ent.frm hf (fun n hn e => by
    rcases e with e | e
    · exact h.base.dbe (by rw [← e]; exact Hp.mem_g hn)
    · exact h.base.oe _ e (Hp.mem_g hn))
  have hqo : w'.ownsRow B 67 1 vq l.length (clsP E l) := own_frm h.q hf (fun k hk e => by
    rcases e with e | e
    · exact hq (by rw [hk, e])
    · exact h.base.qo k hk e)
  refine ⟨⟨⟨hb, ⟨_, _, hqo⟩, own_frm h.base.all hf (fun k hk e => ?_), by rw [List.length_append]; exact ho, h.base.apart, ⟨_, _, he⟩, h.base.inj, Nat.le_trans h.base.low hf.size, h.base.lowb, h.base.lowe⟩, hqo, he, h.ok, h.kl⟩, hf.below h.base.low ?_⟩
  · rcases e with e | e
    · exact h.base.adb (by rw [hk, e])
    · exact h.base.ao k hk e
  · rintro i (e | e)
    · rw [e]; exact h.base.lowb
    · exact (h.base.out.lt i e).1
/-- One key stored. -/
theorem DS.key (h : DS B w db vq va vo E K l out) {p : Nat} (hp : p < l.length) {m : Nat} (hm : (g l p).2 = (m : Int)) (k : Int) :
    DS B (w.setCell ⟨g E m, 0, none⟩ (.int .i64 k)) db vq va vo E (K.set m k) (l.set p (k, (m : Int))) out ∧ Below B w (w.setCell ⟨g E m, 0, none⟩ (.int .i64 k)) := by
  obtain ⟨m1, m2, m3⟩ := h.ok.mem _ (Hp.mem_g hp)
  have hmE : m < E.length := by omega
  have hmem : g E m ∈ E := Hp.mem_g hmE
  have hf : Frm (fun i => i = g E m) w (w.setCell ⟨g E m, 0, none⟩ (.int .i64 k)) := Frm.setCell (X := fun i => i = g E m) (p := ⟨g E m, 0, none⟩) (Frm.refl _ w) rfl _
  have hq := h.ok.set h.kl hp k
  have hix := fun n => Hp.ix_set hp k n
  rw [hm] at hq hix
  rw [Int.toNat_natCast] at hq
  have he : Ents E (K.set m k) (ix (l.set p (k, (m : Int)))) (w.setCell ⟨g E m, 0, none⟩ (.int .i64 k)) := by
    intro n hn
    rw [hix, Hp.g_set _ _ (by rw [h.kl]; exact hmE)]
    by_cases e : n = m
    · subst e
      rw [if_pos rfl]
      exact EC.key (h.ent n hn) k
    · rw [if_neg e]
      have hne : g E n ≠ g E m := by
        intro e'
        rw [← Hp.g_eq hn, ← Hp.g_eq hmE] at e'
        exact e ((List.getElem_inj h.base.inj).1 e')
      rw [Below.heap_setCell _ _ _ _ hne]
      exact h.ent n hn
  have hcl : clsP E (l.set p (k, (m : Int))) = clsP E l := by
    rw [clsP_set]
    exact set_same (by rw [clsP_at E l p hp, hm])
  have hqo : (w.setCell ⟨g E m, 0, none⟩ (.int .i64 k)).ownsRow B 67 1 vq (l.set p (k, (m : Int))).length (clsP E (l.set p (k, (m : Int)))) := by
    rw [List.length_set, hcl]
    exact own_frm h.q hf (fun j hj e => h.base.qe j hj (by rw [e]; exact hmem))
  refine ⟨⟨⟨?_, ⟨_, _, hqo⟩, own_frm h.base.all hf (fun j hj e => h.base.ae j hj (by rw [e]; exact hmem)), own_frm h.base.out hf (fun j hj e => h.base.oe j hj (by rw [e]; exact hmem)), h.base.apart, ⟨_, _, he⟩, h.base.inj, Nat.le_trans h.base.low hf.size, h.base.lowb, h.base.lowe⟩, hqo, he, hq, by rw [List.length_set]; exact h.kl⟩, hf.below h.base.low ?_⟩
  · rw [hf.block db (lt_of_block h.base.box) (fun e => h.base.dbe (by rw [e]; exact hmem))]
    exact h.base.box
  · rintro i rfl
    exact h.base.lowe _ hmem
/-- The cells that a step reads of an entry. -/
theorem DS.entry (h : DS B w db vq va vo E K l out) {m : Nat} (hm : m < E.length) : ∃ ga ca, va = .slice (some ⟨ga, 0, none⟩) E.length ca ∧ ga < w.heap.size ∧ w.cell? ⟨ga, m, none⟩ = some (.pointer (some ⟨g E m, 0, none⟩)) ∧ w.heap[g E m]? = some (EC (g K m) (m : Int) (ix l (m : Int))) := by
  obtain ⟨A, c, rfl⟩ := own_slice h.base.all
  obtain ⟨ga, hA, _, hlt⟩ := own_addr h.base.all (by omega)
  subst hA
  refine ⟨ga, c, rfl, hlt, ?_, h.ent m hm⟩
  refine (h.base.all.cellAt m (by omega)).trans ?_
  rw [List.getElem?_map, Hp.g_lt hm]
  rfl
end

theorem frm_noteO {B db : Nat} {vq va vo v' : Value} {n m : Nat} {xs ys : List Value} {W w1 : World} (hbk : W.heap[db]? = some (DK vq va vo)) (ho : W.ownsRow B 34 2 vo n xs) (o : Obj)
    (h1 : w1.ownsRow B 34 2 v' m ys) (hg : (W.drew.alloc o).grownBy w1 vo.ownBlock) :
    w1.heap[db]? = some (DK vq va vo) ∧ (w1.setCell ⟨db, 2, none⟩ v').heap[db]? = some (DK vq va v') ∧ (w1.setCell ⟨db, 2, none⟩ v').ownsRow B 34 2 v' m ys ∧ Frm (fun i => i = db ∨ vo.ownBlock = some i) W (w1.setCell ⟨db, 2, none⟩ v') := by
  have hlt := lt_of_block hbk
  have hne := own_ne ho hbk (by decide)
  have hb1 : w1.heap[db]? = some (DK vq va vo) := by
    rw [hg.block db (by simp; omega) (Ne.symm hne)]
    exact (Below.heap_alloc W.drew o db hlt).trans hbk
  exact ⟨hb1, DK.set2 hb1 _, ownsRow_setCell_other h1 (own_ne h1 hb1 (by decide)) _, Frm.setCell (X := fun i => i = db ∨ vo.ownBlock = some i) (p := ⟨db, 2, none⟩) (frm_grown ((Frm.refl _ W).drew.alloc o) hg (fun k hk => .inr hk)) (.inl rfl) _⟩

set_option maxHeartbeats 2000000 in
set_option maxRecDepth 100000 in
theorem gone_any {B db e1 : Nat} {vq va vo : Value} {out : List It} {k1 n1 i1 : Int} {w : World} (hbk : w.heap[db]? = some (DK vq va vo)) (ho : w.ownsRow B 34 2 vo out.length (cls out)) (hx : w.heap[e1]? = some (EC k1 n1 i1)) (hlow : B ≤ w.heap.size) (hn : (out.length + 1) * 16 ≤ 211106232598528) :
    Calls Try.prog 45 #[.pointer (some ⟨db, 0, none⟩), .pointer (some ⟨e1, 0, none⟩)] w fun e w' => e = .returned (.tuple #[]) ∧
      ∃ vo', w'.heap[db]? = some (DK vq va vo') ∧ w'.ownsRow B 34 2 vo' (out.length + 1) (cls (out ++ [(k1, n1)])) ∧ Frm (fun i => i = db ∨ vo.ownBlock = some i) w w' := by
  obtain ⟨A1, c1, rfl⟩ := own_slice ho
  obtain ⟨_, _, k2, kf⟩ := DK.cells hbk
  obtain ⟨x0, x1, _, _⟩ := EC.cells hx
  have hltx := lt_of_block hx
  have hltd := lt_of_block hbk
  have HBK := Lib.hid hbk
  have HO := Lib.hid ho
  obtain ⟨m, hm⟩ : ∃ m, m = out.length := ⟨_, rfl⟩
  rw [← hm] at k2
  have HM := Lib.hid hm
  have HN := Lib.hid hn
  clear hbk ho hx kf hm hn
  go_enter Try.func45, Try.ntmps45
  go_wp2
  go_region_law
    (first
      | (refine wanted_plain rfl (wp_append_item (.tmp 8) (.tmp 18) rfl (.slice A1 out.length c1) B out (k1, n1) w.heap.size (by simp [Act.eval, HM.out]) (by simp [Act.eval]) ?_ ?_ ?_ ?_ ?_)
         · exact (HO.out.drew.alloc _)
         · exact heap_alloc_new _ _
         · exact HN.out
         · simp; omega
         intro A3 c3 w3 ho3 hg3
         obtain ⟨hm3, hW3, hO3, hB3⟩ := frm_noteO HBK.out HO.out _ ho3 hg3
         have HW3 := Lib.hid hW3
         have HO3 := Lib.hid hO3
         have HB3 := Lib.hid hB3
         clear ho3 hg3 hW3 hO3 hB3
         obtain ⟨_, _, k3, kf3⟩ := DK.cells hm3
         have f3 := kf3 2
         clear kf3))
  all_goals
    go_end0
    exact ⟨rfl, _, HW3.out, HO3.out, HB3.out⟩
end Go.Proofs.Ytpjdpcpcfcohiaa
