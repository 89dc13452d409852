/-
  What holds of every own slice, of every slice that is read, and of what a call leaves alone; append by an equation on its run. No type of the program stands here. No conditions but those that each theorem names.
-/
import Derived.Test.YtjojlnmcifkenaaHeap
import Derived.Test.YtjojlnmcifkenaaMeth
import Derived.Deep.QuietTactic
import Derived.BigQuiet
import Derived.RegionTactic
import Derived.BigRegion
import Derived.OneCell
import Derived.Deep.AppendLies
import Derived.Maps.AppendAt
import Derived.Deep.DeepAppendWide
import Derived.Deep.RegionHeld3
import Derived.Deep.RegionLaw
namespace Go.Proofs.Ytjojlnmcifkenaa
open Go.RowKit Go.Shelf
open Hp (g swp Ev)

theorem ownsRow_drewN {w : World} {base : Nat} {e : TypeId} {size : Nat} {v : Value} {n : Nat} {xs : List Value} (h : w.ownsRow base e size v n xs) (q : Nat) : (w.drewN q).ownsRow base e size v n xs := h
theorem below_drewN {B : Nat} {a w : World} (h : Below B a w) (n : Nat) : Below B a (w.drewN n) := ⟨h.os, h.tape, h.output, h.size, h.block⟩
theorem own_ne {w : World} {g0 : Nat} {t e : TypeId} {B size n : Nat} {v : Value} {xs : List Value} {cs : Array Value} {fr : Nat × Nat} (h : w.ownsRow B e size v n xs) (hg : w.heap[g0]? = some (.cells cs t fr)) (hne : e ≠ t) : v.ownBlock ≠ some g0 := by
  rcases h.2 with ⟨rfl, _⟩ | ⟨g', cap, cur, rfl, _, hh, _⟩
  · simp [Value.ownBlock]
  · intro he
    have : g' = g0 := by simpa [Value.ownBlock] using he
    subst this
    rw [hh] at hg
    injection hg with hg
    injection hg with _ ht
    exact hne ht
theorem own_slice {w : World} {B : Nat} {e : TypeId} {size : Nat} {v : Value} {n : Nat} {xs : List Value} (h : w.ownsRow B e size v n xs) : ∃ A c, v = .slice A n c := by
  rcases h.2 with ⟨rfl, rfl⟩ | ⟨gb, cap, cur, hv, _⟩
  · exact ⟨none, 0, rfl⟩
  · exact ⟨_, cap, hv⟩
theorem heap_size_alloc (w : World) (o : Obj) : (w.alloc o).heap.size = w.heap.size + 1 := by simp
theorem own_base {w : World} {B B' : Nat} {e : TypeId} {size : Nat} {v : Value} {n : Nat} {xs : List Value} (h : w.ownsRow B e size v n xs) (hB : B' ≤ B) : w.ownsRow B' e size v n xs := by
  refine ⟨h.1, ?_⟩
  rcases h.2 with h2 | ⟨gb, cap, cur, hv, hb, r⟩
  · exact .inl h2
  · exact .inr ⟨gb, cap, cur, hv, Nat.le_trans hB hb, r⟩
theorem wide_fits16 {n : Nat} (h : n * 16 ≤ 211106232598528) : (n + n / 4 + 192) * 16 ≤ 281474976710656 := by omega
/-- A slice with the address A reads as these cells. -/
def Rd (w : World) (A : Option Addr) (xs : List Value) : Prop := xs = [] ∨ ∃ b o : Nat, A = some ⟨b, o, none⟩ ∧ b < w.heap.size ∧ ∀ j u, xs[j]? = some u → w.cell? ⟨b, o + j, none⟩ = some u
theorem add_lit (b o j : Nat) : (⟨b, o, none⟩ : Addr).add j = ⟨b, o + j, none⟩ := by
  unfold Addr.add
  split <;> simp_all
theorem Rd.below {w w' : World} {A : Option Addr} {xs : List Value} {B : Nat} (h : Rd w A xs) (hb : Below B w w') (hB : w.heap.size ≤ B) : Rd w' A xs := by
  rcases h with h | ⟨b, o, h1, h2, h3⟩
  · exact .inl h
  · exact .inr ⟨b, o, h1, Nat.lt_of_lt_of_le h2 hb.size, fun j u hu => (hb.cell (p := ⟨b, o + j, none⟩) (Nat.lt_of_lt_of_le h2 hB)).trans (h3 j u hu)⟩
theorem Rd.of_own {w : World} {B : Nat} {e : TypeId} {A : Option Addr} {n c : Nat} {xs : List Value} {size : Nat} (h : w.ownsRow B e size (.slice A n c) n xs) : Rd w A xs := by
  rcases h.2 with ⟨hv, h0⟩ | ⟨gb, cap, cur, hv, hb, hh, _⟩
  · left
    apply List.eq_nil_of_length_eq_zero
    rw [h.1, h0, Nat.zero_mul]
  · right
    have hA : A = some ⟨gb, 0, none⟩ := by injection hv
    subst hA
    exact ⟨gb, 0, rfl, (Array.getElem?_eq_some_iff.1 hh).1, fun j u hu => by rw [← add_lit]; exact h.cells (g := gb) rfl j u hu⟩
theorem take_succ_g {α : Type} [Inhabited α] (l : List α) (k : Nat) (h : k < l.length) : l.take (k + 1) = l.take k ++ [g l k] := by
  rw [List.take_succ_eq_append_getElem h, Hp.g_eq h]
/-- append, by an equation on its run. -/
theorem wp_append_run {P : Program} {w : World} {o : Oper} {a : Act} {K : Act → World → Prop} {Q : Exit → Act → World → Prop} (s x : Operand) (t : TypeId)
    (ho : o.op = .call { callee := .builtin .append, args := #[s, x], argTypes := #[t, t] }) (v1 v2 v' : Value) (w' : World) (hs : a.eval s = v1) (hx : a.eval x = v2)
    (hrun : (Builtin.append_ #[t, t] o.type #[v1, v2]).run P w = .ok v' w') (h : K (a.put o.dst v') w') : o.wp P a w K Q := by
  unfold Oper.wp execOp
  simp only [ho, resolve, invoke, builtin, Sem.run_bind, Sem.run_pure, Result.andThen_ok, List.map_toArray, List.map_cons, List.map_nil, hs, hx, hrun]
  exact h
theorem wpList_append_run {P : Program} {w : World} {ops : Array Oper} {rest : List Oper} {o : Oper} {a : Act} {Q : Exit → Act → World → Prop} (hgd : o.guard = none) (s x : Operand) (t : TypeId)
    (ho : o.op = .call { callee := .builtin .append, args := #[s, x], argTypes := #[t, t] }) (v1 v2 v' : Value) (w' : World) (hs : a.eval s = v1) (hx : a.eval x = v2)
    (hrun : (Builtin.append_ #[t, t] o.type #[v1, v2]).run P w = .ok v' w') (h : wpList P ops Q rest (a.put o.dst v') w') : wpList P ops Q (o :: rest) a w :=
  wpList_plain hgd fun _ hK => wp_append_run s x t ho v1 v2 v' w' hs hx hrun (hK _ _ h)
theorem bnext {w W W' : World} (h : Below w.heap.size w W) (k : Below W.heap.size W W') : Below w.heap.size w W' := h.trans (k.mono h.size)
/-- What a function that only reads leaves. -/
def Gives (w : World) (v : Value) (e : Ending) (w' : World) : Prop := e = .returned v ∧ Below w.heap.size w w'
theorem wanted_plain {ops : Array Oper} {o : Oper} {a : Act} {X E : Prop} (hgd : o.guard = none) (h : X) : if Region.wanted o (yielded ops a.tmps) = true then X else E := by
  rw [if_pos (by simp [Region.wanted, hgd])]
  exact h
/-- All blocks but those of X are as they were; the streams are as they were; no block has gone. -/
structure Frm (X : Nat → Prop) (w w' : World) : Prop where
  os : w'.os = w.os
  tape : w'.tape = w.tape
  output : w'.output = w.output
  size : w.heap.size ≤ w'.heap.size
  block : ∀ k, k < w.heap.size → ¬ X k → w'.heap[k]? = w.heap[k]?
theorem Frm.refl (X : Nat → Prop) (w : World) : Frm X w w := ⟨rfl, rfl, rfl, Nat.le_refl _, fun _ _ _ => rfl⟩
/-- One after the other; of the second's blocks only those that were there at the start count. -/
theorem Frm.next {X Y : Nat → Prop} {a b c : World} (h : Frm X a b) (k : Frm Y b c) (hxy : ∀ i, i < a.heap.size → Y i → X i) : Frm X a c :=
  ⟨k.os.trans h.os, k.tape.trans h.tape, k.output.trans h.output, Nat.le_trans h.size k.size, fun i hi hx => (k.block i (Nat.lt_of_lt_of_le hi h.size) (fun hy => hx (hxy i hi hy))).trans (h.block i hi hx)⟩
theorem Frm.mono {X Y : Nat → Prop} {a b : World} (h : Frm X a b) (hxy : ∀ i, i < a.heap.size → X i → Y i) : Frm Y a b :=
  ⟨h.os, h.tape, h.output, h.size, fun i hi hy => h.block i hi (fun hx => hy (hxy i hi hx))⟩
theorem Frm.of_below {B : Nat} {a b : World} (h : Below B a b) : Frm (fun i => B ≤ i) a b := ⟨h.os, h.tape, h.output, h.size, fun i _ hx => h.block i (by omega)⟩
theorem Frm.of_new {X : Nat → Prop} {a b : World} (h : Below a.heap.size a b) : Frm X a b := ⟨h.os, h.tape, h.output, h.size, fun i hi _ => h.block i hi⟩
theorem Frm.of_grown {X : Nat → Prop} {a b : World} {row : Option Nat} (h : a.grownBy b row) (hr : ∀ k, row = some k → X k) : Frm X a b :=
  ⟨h.os, h.tape, h.output, h.size, fun i hi hx => h.block i hi (fun e => hx (hr i e.symm))⟩
theorem Frm.below {X : Nat → Prop} {B : Nat} {a b : World} (h : Frm X a b) (hB : B ≤ a.heap.size) (hx : ∀ i, X i → B ≤ i) : Below B a b :=
  ⟨h.os, h.tape, h.output, h.size, fun i hi => h.block i (Nat.lt_of_lt_of_le hi hB) (fun e => by have := hx i e; omega)⟩
theorem Frm.drew {X : Nat → Prop} {a b : World} (h : Frm X a b) : Frm X a b.drew := ⟨h.os, h.tape, h.output, h.size, h.block⟩
theorem Frm.drewN {X : Nat → Prop} {a b : World} (h : Frm X a b) (q : Nat) : Frm X a (b.drewN q) := ⟨h.os, h.tape, h.output, h.size, h.block⟩
theorem Frm.alloc {X : Nat → Prop} {a b : World} (h : Frm X a b) (o : Obj) : Frm X a (b.alloc o) :=
  h.next (Frm.of_new (X := X) ((Below.refl _ _).alloc (Nat.le_refl _) o)) (fun _ _ h => h)
theorem Frm.setCell {X : Nat → Prop} {a b : World} (h : Frm X a b) {p : Addr} (hp : X p.block) (v : Value) : Frm X a (b.setCell p v) :=
  ⟨h.os, h.tape, h.output, by simpa [World.setCell] using h.size, fun i hi hx => (Below.heap_setCell b p v i (fun e => hx (by rw [e]; exact hp))).trans (h.block i hi hx)⟩
theorem Frm.cell {X : Nat → Prop} {a b : World} (h : Frm X a b) {p : Addr} (hlt : p.block < a.heap.size) (hx : ¬ X p.block) : b.cell? p = a.cell? p := World.cell?_of_block (h.block _ hlt hx)
theorem Frm.frozen {X : Nat → Prop} {a b : World} (h : Frm X a b) {p : Addr} (hlt : p.block < a.heap.size) (hx : ¬ X p.block) : b.frozen? p = a.frozen? p := World.frozen?_of_block (h.block _ hlt hx)
/-- An own slice stays, if its row is not among what has changed. -/
theorem own_frm {X : Nat → Prop} {a b : World} {B : Nat} {e : TypeId} {size : Nat} {v : Value} {n : Nat} {xs : List Value} (h : a.ownsRow B e size v n xs) (f : Frm X a b) (hx : ∀ k, v.ownBlock = some k → ¬ X k) : b.ownsRow B e size v n xs := by
  refine ⟨h.1, ?_⟩
  rcases h.2 with h2 | ⟨gb, cap, cur, hv, hb, hh, r⟩
  · exact .inl h2
  · refine .inr ⟨gb, cap, cur, hv, hb, ?_, r⟩
    rw [f.block gb (Array.getElem?_eq_some_iff.1 hh).1 (hx gb (by rw [hv]; rfl))]
    exact hh
/-- A slice with the address A reads as these cells, and its block is not among X. -/
def RdX (X : Nat → Prop) (w : World) (A : Option Addr) (xs : List Value) : Prop := xs = [] ∨ ∃ b o : Nat, A = some ⟨b, o, none⟩ ∧ b < w.heap.size ∧ ¬ X b ∧ ∀ j u, xs[j]? = some u → w.cell? ⟨b, o + j, none⟩ = some u
theorem RdX.rd {X : Nat → Prop} {w : World} {A : Option Addr} {xs : List Value} (h : RdX X w A xs) : Rd w A xs := by
  rcases h with h | ⟨b, o, h1, h2, _, h3⟩
  · exact .inl h
  · exact .inr ⟨b, o, h1, h2, h3⟩
theorem RdX.frm {X Y Z : Nat → Prop} {w w' : World} {A : Option Addr} {xs : List Value} (h : RdX X w A xs) (f : Frm Y w w') (hy : ∀ i, i < w.heap.size → Y i → X i) (hz : ∀ i, i < w.heap.size → Z i → X i) : RdX Z w' A xs := by
  rcases h with h | ⟨b, o, h1, h2, hx, h3⟩
  · exact .inl h
  · exact .inr ⟨b, o, h1, Nat.lt_of_lt_of_le h2 f.size, fun hzz => hx (hz b h2 hzz), fun j u hu => (f.cell (p := ⟨b, o + j, none⟩) h2 (fun e => hx (hy b h2 e))).trans (h3 j u hu)⟩
theorem RdX.of_own {X : Nat → Prop} {w : World} {B : Nat} {e : TypeId} {A : Option Addr} {n c : Nat} {xs : List Value} {size : Nat} (h : w.ownsRow B e size (.slice A n c) n xs) (hx : ∀ k, (Value.slice A n c).ownBlock = some k → ¬ X k) : RdX X w A xs := by
  rcases Rd.of_own h with h1 | ⟨b, o, h1, h2, h3⟩
  · exact .inl h1
  · exact .inr ⟨b, o, h1, h2, hx b (by rw [h1]; rfl), h3⟩
theorem Rd.to_new {X : Nat → Prop} {w : World} {A : Option Addr} {xs : List Value} (h : Rd w A xs) (hx : ∀ k, X k → w.heap.size ≤ k) : RdX X w A xs := by
  rcases h with h | ⟨b, o, h1, h2, h3⟩
  · exact .inl h
  · exact .inr ⟨b, o, h1, h2, fun e => by have := hx b e; omega, h3⟩
/-- append onto an own slice: the new one lies in the old row, or in a new block. -/
theorem run_append_wide_at {P : Program} (w : World) (base : Nat) (t ty e : TypeId) (i : TypeInfo) (z : Value) (size bytes : Nat) (ht : P.underlying t = some (.slice e)) (hi : P.info? e = some i) (hz : i.zero = some z)
    (hsize : i.size = size) (hby : i.bytes = bytes) (hzs : z.cells.size = size) (hsz : 0 < size)
    (v : Value) (n : Nat) (xs : List Value) (hown : w.ownsRow base e size v n xs)
    (a : Addr) (m c : Nat) (news : List Value) (hl : news.length = m * size) (hnews : ∀ j u, news[j]? = some u → w.cell? (a.add j) = some u) (h1 : ∀ u ∈ news, u.oneCell' = true)
    (h63 : n + m ≤ maxLen) (hbytes : ((n + m) + (n + m) / 4 + 192) * bytes ≤ 281474976710656) (hbase : base ≤ w.heap.size) :
    ∃ v' w', (Builtin.append_ #[t, t] ty #[v, .slice (some a) m c]).run P w = .ok v' w' ∧ w'.ownsRow base e size v' (n + m) (xs ++ news) ∧ w.grownBy w' v.ownBlock ∧
      (v'.ownBlock = v.ownBlock ∨ v'.ownBlock = some w.heap.size) := by
  obtain ⟨v', w', hr, h2, h3, h4⟩ := run_append_own_wide (P := P) w base t ty e i z size bytes ht hi hz hsize hby hzs hsz v n xs hown a m c news hl hnews h1 h63 hbytes hbase
  refine ⟨v', w', hr, h2, h3, ?_⟩
  subst hsize
  subst hby
  have hsm : n + m ≤ 9223372036854775807 := by simp only [maxLen] at h63; omega
  rcases hown.2 with ⟨rfl, rfl⟩ | ⟨gb, cap, cur, rfl, hbg, hg, hnc, hcm, hcs, htake⟩
  · by_cases hm : m = 0
    · rw [h4.2 ⟨rfl, hm⟩]; exact .inl rfl
    · have hx := run_append_nil (P := P) w t ty e i z ht hi hz a m c news hl hnews (by omega) (by omega) (Nat.le_trans (Nat.mul_le_mul_right _ (by omega)) hbytes)
      rw [hx] at hr
      injection hr with hr _
      rw [← hr]
      exact .inr rfl
  · by_cases hroom : n + m ≤ cap
    · have hx := run_append_room (P := P) w t ty e i ht hi gb n cap cur hg a m c news hl hnews h1 hroom (by rw [hl, hcs, ← Nat.add_mul]; exact Nat.mul_le_mul_right _ hroom)
      rw [hx] at hr
      injection hr with hr _
      rw [← hr]
      exact .inl rfl
    · have hx := run_append_grow (P := P) w t ty e i z ht hi hz ⟨gb, 0, none⟩ n cap xs hown.1 (hown.cells (g := gb) rfl) a m c news hl hnews (by omega) (by omega) (growslice_fits_wide (by omega) hbytes)
      rw [hx] at hr
      injection hr with hr _
      rw [← hr]
      exact .inr rfl
/-- The blocks that a heap may change: its variable's, and that of its row. -/
def HX (hb : Nat) (v : Value) (i : Nat) : Prop := i = hb ∨ v.ownBlock = some i
/-- A slice lies in the row of another one, or in a block that is new since a world. -/
def Lies (w0 : World) (v0 v : Value) : Prop := ∀ k, v.ownBlock = some k → v0.ownBlock = some k ∨ w0.heap.size ≤ k
theorem Lies.refl (w : World) (v : Value) : Lies w v v := fun _ h => .inl h
theorem Lies.of_or {w w0 : World} {v0 v : Value} (h : v.ownBlock = v0.ownBlock ∨ v.ownBlock = some w.heap.size) (hw : w0.heap.size ≤ w.heap.size) : Lies w0 v0 v := by
  intro k hk
  rcases h with h | h
  · exact .inl (by rw [← h]; exact hk)
  · right
    rw [h] at hk
    injection hk with hk
    omega
theorem Lies.trans {w0 w1 : World} {v0 v1 v2 : Value} (h : Lies w0 v0 v1) (k : Lies w1 v1 v2) (hw : w0.heap.size ≤ w1.heap.size) : Lies w0 v0 v2 := by
  intro i hi
  rcases k i hi with h1 | h1
  · exact h i h1
  · exact .inr (Nat.le_trans hw h1)
theorem frm_row {w0 w w' : World} {hb : Nat} {v0 v : Value} (h : Frm (HX hb v0) w0 w) (hl : Lies w0 v0 v) (hg : w.grownBy w' v.ownBlock) : Frm (HX hb v0) w0 w' :=
  h.next (Frm.of_grown (X := fun k => v.ownBlock = some k) hg (fun _ e => e)) (fun i hi e => by
    rcases hl i e with h1 | h1
    · exact .inr h1
    · omega)
theorem own_apart {w : World} {B1 B2 : Nat} {e1 e2 : TypeId} {z1 z2 n1 n2 : Nat} {v1 v2 : Value} {x1 x2 : List Value} (h1 : w.ownsRow B1 e1 z1 v1 n1 x1) (h2 : w.ownsRow B2 e2 z2 v2 n2 x2) (hne : e1 ≠ e2) : ∀ k, v1.ownBlock = some k → v2.ownBlock ≠ some k := by
  intro k hk hk2
  rcases h2.2 with ⟨rfl, _⟩ | ⟨gb, cap, cur, rfl, _, hh, _⟩
  · simp [Value.ownBlock] at hk2
  · have e : gb = k := by simpa [Value.ownBlock] using hk2
    subst e
    exact own_ne h1 hh hne hk
theorem m16 {n : Nat} (h : n ≤ 13194139537408) : n * 16 ≤ 211106232598528 := by omega
/-- A slice that was built just now. -/
theorem own_built {w : World} {B : Nat} {e : TypeId} {size n : Nat} {cs : Array Value} (hc : cs.size = n * size) (hn : n ≤ maxLen) (hB : B ≤ w.heap.size) : (w.alloc (.cells cs e)).ownsRow B e size (.slice (some ⟨w.heap.size, 0, none⟩) n n) n cs.toList :=
  ⟨by simpa using hc, .inr ⟨w.heap.size, n, cs, rfl, hB, heap_alloc_new _ _, Nat.le_refl _, hn, hc, by rw [← hc]; exact List.take_of_length_le (by simp)⟩⟩
theorem set_same {l : List Value} {i : Nat} {a : Value} (h : l[i]? = some a) : l.set i a = l := by
  apply List.ext_getElem?
  intro j
  rw [List.getElem?_set]
  split
  · next e =>
    subst e
    have : i < l.length := by
      rcases Nat.lt_or_ge i l.length with h' | h'
      · exact h'
      · rw [List.getElem?_eq_none h'] at h; cases h
    rw [if_pos this, h]
  · rfl
/-- The address of an own slice with elements. -/
theorem own_addr {w : World} {B : Nat} {e : TypeId} {size n c : Nat} {A : Option Addr} {xs : List Value} (h : w.ownsRow B e size (.slice A n c) n xs) (hn : 0 < n) : ∃ gb, A = some ⟨gb, 0, none⟩ ∧ B ≤ gb ∧ gb < w.heap.size := by
  rcases h.2 with ⟨_, h0⟩ | ⟨gb, cap, cur, hv, _⟩
  · omega
  · have e : A = some ⟨gb, 0, none⟩ := by injection hv
    subst e
    exact ⟨gb, rfl, h.lt gb rfl⟩
theorem wanted_g {ops : Array Oper} {o : Oper} {a : Act} {X E : Prop} (hw : Region.wanted o (yielded ops a.tmps) = true) (h : X) : if Region.wanted o (yielded ops a.tmps) = true then X else E := by
  rw [if_pos hw]
  exact h
theorem wpList_append_run_g {P : Program} {w : World} {ops : Array Oper} {rest : List Oper} {o : Oper} {a : Act} {Q : Exit → Act → World → Prop} (hw : Region.wanted o (yielded ops a.tmps) = true) (s x : Operand) (t : TypeId)
    (ho : o.op = .call { callee := .builtin .append, args := #[s, x], argTypes := #[t, t] }) (v1 v2 v' : Value) (w' : World) (hs : a.eval s = v1) (hx : a.eval x = v2)
    (hrun : (Builtin.append_ #[t, t] o.type #[v1, v2]).run P w = .ok v' w') (h : wpList P ops Q rest (a.put o.dst v') w') : wpList P ops Q (o :: rest) a w := by
  show (if Region.wanted o (yielded ops a.tmps) = true then _ else _)
  rw [if_pos hw]
  exact .inl (wp_append_run s x t ho v1 v2 v' w' hs hx hrun h)
theorem Rd.take {w : World} {A : Option Addr} {xs : List Value} (h : Rd w A xs) (k : Nat) : Rd w A (xs.take k) := by
  rcases h with h | ⟨b, o, h1, h2, h3⟩
  · left; rw [h]; simp
  · right
    refine ⟨b, o, h1, h2, fun j u hu => h3 j u ?_⟩
    rw [List.getElem?_take] at hu
    split at hu
    · exact hu
    · cases hu
theorem Rd.drop {w : World} {A : Option Addr} {xs : List Value} (h : Rd w A xs) (k : Nat) (hk : k < xs.length) : Rd w (A.map (·.add k)) (xs.drop k) := by
  rcases h with h | ⟨b, o, h1, h2, h3⟩
  · rw [h] at hk; simp at hk
  · right
    refine ⟨b, o + k, by rw [h1]; simp [add_lit], h2, fun j u hu => ?_⟩
    rw [Nat.add_assoc]
    refine h3 _ u ?_
    rw [List.getElem?_drop] at hu
    exact hu
theorem run_size {P : Program} {t : TypeId} {n : Nat} (h : (P.info? t).map (fun i => i.size) = some n) (w : World) : (sizeOf t).run P w = .ok n w := by
  cases hi : P.info? t with
  | none => rw [hi] at h; cases h
  | some i =>
    rw [hi] at h
    injection h with h
    simp [sizeOf, typeInfo, hi, h]
end Go.Proofs.Ytjojlnmcifkenaa
