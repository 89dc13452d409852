/-
  Parts of a slice of steps and of a list of lists; append of lists of lists; append under a guard. No conditions but those that each theorem names.
-/
import Derived.Test.YtadacjndepkfeaaSame
import Derived.Test.YtadacjndepkfeaaAppend
namespace Go.Proofs.Ytadacjndepkfeaa
open Go.RowKit Go.Shelf
open Hp (g swp Ev St plc)

theorem wpList_append_run_g {P : Program} {w : World} {ops : Array Oper} {rest : List Oper} {o : Oper} {a : Act} {Q : Exit → Act → World → Prop} (hw : Region.wanted o (yielded ops a.tmps) = true) (s x : Operand) (t : TypeId)
    (ho : o.op = .call { callee := .builtin .append, args := #[s, x], argTypes := #[t, t] }) (v1 v2 v' : Value) (w' : World) (hs : a.eval s = v1) (hx : a.eval x = v2)
    (hrun : (Builtin.append_ #[t, t] o.type #[v1, v2]).run P w = .ok v' w') (h : wpList P ops Q rest (a.put o.dst v') w') : wpList P ops Q (o :: rest) a w := by
  show (if Region.wanted o (yielded ops a.tmps) = true then _ else _)
  rw [if_pos hw]
  exact .inl (wp_append_run s x t ho v1 v2 v' w' hs hx hrun h)

theorem run_append_rows (w : World) (B : Nat) (u : Value) (n : Nat) (vs : List Value) (m : Nat) (us : List Value) (A : Option Addr) (c : Nat) (hown : w.ownsRow B 25 1 u n vs) (hr : Rd w A us) (hm : m = us.length) (h1 : ∀ v ∈ us, v.oneCell' = true) (hn : (n + m) * 24 ≤ 211106232598528) (hB : B ≤ w.heap.size) (ty : TypeId) :
    ∃ A' c' w', (Builtin.append_ #[24, 24] ty #[u, .slice A m c]).run Try.prog w = .ok (.slice A' (n + m) c') w' ∧
      w'.ownsRow B 25 1 (.slice A' (n + m) c') (n + m) (vs ++ us) ∧ w.grownBy w' u.ownBlock := by
  subst hm
  obtain ⟨i0, hi, hz0, hz1, hz2⟩ := info_parts info_row
  by_cases h0 : us = []
  · subst h0
    obtain ⟨A1, c1, rfl⟩ := own_slice hown
    have hlc : n ≤ c1 := by
      rcases hown.2 with ⟨_, e⟩ | ⟨gb, cap, cur, hv, _, _, hc, _⟩
      · omega
      · injection hv with _ _ hv3; omega
    refine ⟨A1, c1, w, ?_, by simpa using hown, World.grownBy.refl _ _⟩
    cases A with
    | none =>
      cases A1 with
      | none => simp [Builtin.append_, run_underlying Try.underlying24, sizeOf, typeInfo, hi, Builtin.lenOf, Builtin.firstCells, hlc]
      | some a1 => simp [Builtin.append_, run_underlying Try.underlying24, sizeOf, typeInfo, hi, Builtin.lenOf, Builtin.firstCells, hlc, storeCells]
    | some ad =>
      cases A1 with
      | none => simp [Builtin.append_, run_underlying Try.underlying24, sizeOf, typeInfo, hi, Builtin.lenOf, Builtin.firstCells, loadCells, loadCellsFrom, hlc]
      | some a1 => simp [Builtin.append_, run_underlying Try.underlying24, sizeOf, typeInfo, hi, Builtin.lenOf, Builtin.firstCells, loadCells, loadCellsFrom, hlc, storeCells]
  · rcases hr with h | ⟨b, o, rfl, hb, hc⟩
    · exact absurd h h0
    · obtain ⟨v', w', hr, h2, h3, _⟩ := run_append_own_wide (P := Try.prog) w B 24 ty 25 i0 _ 1 24 Try.underlying24 hi hz0 hz1 hz2 rfl (by decide) u n vs hown
        ⟨b, o, none⟩ us.length c us (by simp) (fun j u hu => by rw [add_lit]; exact hc j u hu) h1 (by simp only [maxLen]; omega) (wide_fits24 hn) hB
      obtain ⟨A', c', rfl⟩ := own_slice h2
      exact ⟨A', c', w', hr, h2, h3⟩

theorem SS.take {w : World} {vs : List Value} {S : List (List It)} (h : SS (fun _ => False) w vs S) (k : Nat) : SS (fun _ => False) w (vs.take k) (S.take k) := by
  refine ⟨by simp [h.1], fun i hi => ?_⟩
  simp at hi
  obtain ⟨v, h1, h2⟩ := h.2 i (by omega)
  refine ⟨v, by rw [List.getElem?_take, if_pos (by omega)]; exact h1, ?_⟩
  have e : g (S.take k) i = g S i := by
    unfold g
    rw [List.getElem?_take, if_pos (by omega)]
  rw [e]; exact h2
theorem SS.append {w : World} {vs us : List Value} {S T : List (List It)} (h : SS (fun _ => False) w vs S) (k : SS (fun _ => False) w us T) : SS (fun _ => False) w (vs ++ us) (S ++ T) := by
  refine ⟨by simp [h.1, k.1], fun i hi => ?_⟩
  simp at hi
  by_cases hlt : i < S.length
  · obtain ⟨v, h1, h2⟩ := h.2 i hlt
    exact ⟨v, by rw [List.getElem?_append_left (by rw [h.1]; exact hlt)]; exact h1, by rw [Hp.g_append_left hlt]; exact h2⟩
  · obtain ⟨v, h1, h2⟩ := k.2 (i - S.length) (by omega)
    refine ⟨v, by rw [List.getElem?_append_right (by rw [h.1]; omega), h.1]; exact h1, ?_⟩
    have e : g (S ++ T) i = g T (i - S.length) := by simp [g, List.getElem?_append_right (show S.length ≤ i by omega)]
    rw [e]; exact h2
theorem Rd.take {w : World} {A : Option Addr} {xs : List Value} (h : Rd w A xs) (k : Nat) : Rd w A (xs.take k) := by
  rcases h with h | ⟨b, o, h1, h2, h3⟩
  · left; rw [h]; simp
  · right
    refine ⟨b, o, h1, h2, fun j u hu => h3 j u ?_⟩
    rw [List.getElem?_take] at hu
    split at hu
    · exact hu
    · cases hu
theorem Rd.drop {w : World} {A : Option Addr} {xs : List Value} (h : Rd w A xs) (k : Nat) (hk : k < xs.length) : Rd w (A.map (·.add k)) (xs.drop k) := by
  rcases h with h | ⟨b, o, h1, h2, h3⟩
  · rw [h] at hk; simp at hk
  · right
    refine ⟨b, o + k, by rw [h1]; simp [add_lit], h2, fun j u hu => ?_⟩
    rw [Nat.add_assoc]
    refine h3 _ u ?_
    rw [List.getElem?_drop] at hu
    exact hu
theorem clsT_take (l : List St) (k : Nat) : clsT (l.take k) = (clsT l).take (k * 4) := by
  induction l generalizing k with
  | nil => simp [clsT]
  | cons s l ih =>
    cases k with
    | zero => simp [clsT]
    | succ k =>
      rw [List.take_succ_cons, clsT_cons, clsT_cons, ih, show (k + 1) * 4 = k * 4 + 4 by omega]
      simp
theorem clsT_drop (l : List St) (k : Nat) : clsT (l.drop k) = (clsT l).drop (k * 4) := by
  induction l generalizing k with
  | nil => simp [clsT]
  | cons s l ih =>
    cases k with
    | zero => simp
    | succ k =>
      rw [List.drop_succ_cons, clsT_cons, ih, show (k + 1) * 4 = k * 4 + 4 by omega]
      simp
theorem elem_steps : Try.prog.elem 23 = 34 := by kernel_rfl
theorem elem_rows : Try.prog.elem 24 = 25 := by kernel_rfl
theorem size_lawStep : (Try.prog.info? 34).map (fun i => i.size) = some 4 := by kernel_rfl
theorem run_size {P : Program} {t : TypeId} {n : Nat} (h : (P.info? t).map (fun i => i.size) = some n) (w : World) : (sizeOf t).run P w = .ok n w := by
  cases hi : P.info? t with
  | none => rw [hi] at h; cases h
  | some i =>
    rw [hi] at h
    injection h with h
    simp [sizeOf, typeInfo, hi, h]

/-- The first steps of a slice. -/
theorem steps_to (A : Option Addr) (n c k : Nat) (hk : k ≤ c) : ∃ A1, (∀ w, (Instr.sliceAt 23 (.slice A n c) none (some (.int .i64 (k : Int))) none).run Try.prog w = .ok (.slice A1 k c) w) ∧ ∀ (w : World) (ss : List St), Rd w A (clsT ss) → Rd w A1 (clsT (ss.take k)) := by
  have hu : Try.prog.underlying 23 = some (.slice (Try.prog.elem 23)) := by rw [elem_steps]; exact Try.underlying23
  refine ⟨if c = 0 then A else A.map (·.add (0 * 4)), fun w => ?_, fun w ss h => ?_⟩
  · rw [run_sliceAt_slice w _ _ _ _ _ hu, run_slice_h w _ A n c hu .i64 (k : Int) (by omega) (by omega), elem_steps, run_size size_lawStep]
    simp [sliced]
  · rw [clsT_take]
    have h1 := h.take (k * 4)
    split
    · exact h1
    · rcases h1 with h1 | ⟨b, o, rfl, h2, h3⟩
      · exact .inl h1
      · exact .inr ⟨b, o, by simp [add_lit], h2, h3⟩
/-- The last steps of a slice. -/
theorem steps_from (A : Option Addr) (n c k : Nat) (hk : k ≤ n) (hn : n ≤ c) : ∃ A1, (∀ w, (Instr.sliceAt 23 (.slice A n c) (some (.int .i64 (k : Int))) none none).run Try.prog w = .ok (.slice A1 (n - k) (c - k)) w) ∧ ∀ (w : World) (ss : List St), n = ss.length → Rd w A (clsT ss) → Rd w A1 (clsT (ss.drop k)) := by
  have hu : Try.prog.underlying 23 = some (.slice (Try.prog.elem 23)) := by rw [elem_steps]; exact Try.underlying23
  refine ⟨if c = k then A else A.map (·.add (k * 4)), fun w => ?_, fun w ss hs h => ?_⟩
  · rw [run_sliceAt_slice w _ _ _ _ _ hu, run_slice_l w _ A n c hu .i64 (k : Int) (by omega) (by omega), elem_steps, run_size size_lawStep]
    simp [sliced]
  · have hl := length_clsT ss
    by_cases hkn : k = n
    · left
      rw [hkn, hs, List.drop_length]; rfl
    · rw [if_neg (by omega), clsT_drop]
      exact h.drop (k * 4) (by omega)
/-- The first lists of a list of lists. -/
theorem rows_to (A : Option Addr) (n c k : Nat) (hk : k ≤ c) : ∃ A1, (∀ w, (Instr.sliceAt 24 (.slice A n c) none (some (.int .i64 (k : Int))) none).run Try.prog w = .ok (.slice A1 k c) w) ∧ ∀ (w : World) (vs : List Value), Rd w A vs → Rd w A1 (vs.take k) := by
  have hu : Try.prog.underlying 24 = some (.slice (Try.prog.elem 24)) := by rw [elem_rows]; exact Try.underlying24
  obtain ⟨i0, hi, hz0, hz1, hz2⟩ := info_parts info_row
  have hsz : (Try.prog.info? 25).map (fun i => i.size) = some 1 := by rw [hi]; simp [hz1]
  refine ⟨if c = 0 then A else A.map (·.add (0 * 1)), fun w => ?_, fun w vs h => ?_⟩
  · rw [run_sliceAt_slice w _ _ _ _ _ hu, run_slice_h w _ A n c hu .i64 (k : Int) (by omega) (by omega), elem_rows, run_size hsz]
    simp [sliced]
  · have h1 := h.take k
    split
    · exact h1
    · rcases h1 with h1 | ⟨b, o, rfl, h2, h3⟩
      · exact .inl h1
      · exact .inr ⟨b, o, by simp [add_lit], h2, h3⟩

/-- What HeapRun and HeapContinue leave, with the capacity of the list of lists. -/
def RunQ (w : World) (L : List It) (ss : List St) (e : Ending) (w' : World) : Prop :=
  ∃ S O A c A2 c2 vs, RunF L ss S O ∧ e = .returned (.tuple #[.slice A S.length c, .slice A2 O.length c2]) ∧ Rd w' A vs ∧ SS (fun _ => False) w' vs S ∧
    Rd w' A2 (cls O) ∧ Below w.heap.size w w' ∧ S.length ≤ c
theorem runQ_of {w : World} {L : List It} {ss : List St} : ∀ e w', Runs w (stsI L ss) (outsI L ss) e w' → RunQ w L ss e w' := by
  rintro e w' ⟨A, c, A2, c2, vs, rfl, h1, h2, h3, h4⟩
  refine ⟨_, _, A, c, A2, c2, vs, runF L ss, rfl, Rd.of_own h1, h2, Rd.of_own h3, h4, ?_⟩
  rcases h1.2 with ⟨hv, e⟩ | ⟨gb, cap, cur, hv, _, _, hc, _⟩
  · omega
  · injection hv with _ _ hv3; omega
theorem run_lawQ (w : World) (A As : Option Addr) (n c m cs : Nat) (l : List It) (ss : List St) (hl : n = l.length) (hm : m = ss.length) (hr : Rd w A (cls l)) (hrs : Rd w As (clsT ss)) (hn : l.length + ss.length + 1 ≤ 13194139537408) (hns : ss.length * 32 ≤ 140737488355328) :
    Calls Try.prog 15 #[.slice A n c, .slice As m cs] w (RunQ w (Hp.init ltK l) ss) :=
  (heapRun_any w A As n c m cs l ss hl hm hr hrs (m16 hn) hns).mono runQ_of
theorem continue_lawQ (w : World) (A As : Option Addr) (n c m cs : Nat) (l : List It) (ss : List St) (hl : n = l.length) (hm : m = ss.length) (hr : Rd w A (cls l)) (hrs : Rd w As (clsT ss)) (hn : l.length + ss.length + 1 ≤ 13194139537408) (hns : ss.length * 32 ≤ 140737488355328) :
    Calls Try.prog 27 #[.slice A n c, .slice As m cs] w (RunQ w l ss) :=
  (heapContinue_any w A As n c m cs l ss hl hm hr hrs (m16 hn) hns).mono runQ_of

theorem split_fin {L : List It} {ss : List St} {S S2 S3 : List (List It)} {O O2 O3 : List It} {k : Nat} (hk : k ≤ ss.length) (h : RunF L ss S O) (h2 : RunF L (ss.take k) S2 O2) (h3 : RunF (g S2 k) (ss.drop k) S3 O3) : S2.take k ++ S3 = S ∧ O2 ++ O3 = O := by
  have e : g S2 k = afterI L (ss.take k) := by
    rw [h2.aft k (by simp; omega), List.take_take, Nat.min_self]
  rw [e] at h3
  have e1 := Hp.sts_append ltK mkI (ss.take k) (ss.drop k) L
  have e2 := Hp.outs_append ltK mkI (ss.take k) (ss.drop k) L
  rw [List.take_append_drop] at e1 e2
  rw [List.length_take, Nat.min_eq_left hk] at e1
  constructor
  · rw [h2.eqS, h3.eqS, h.eqS]; exact e1.symm
  · rw [h2.eqO, h3.eqO, h.eqO]; exact e2.symm
end Go.Proofs.Ytadacjndepkfeaa
