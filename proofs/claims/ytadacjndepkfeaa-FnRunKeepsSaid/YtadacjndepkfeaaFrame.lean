/-
  What a call leaves alone, block by block; append onto an own slice, and where the new slice lies. No conditions but those that each theorem names.
-/
import Derived.Test.YtadacjndepkfeaaReaders
namespace Go.Proofs.Ytadacjndepkfeaa
open Go.RowKit Go.Shelf
open Hp (g swp Ev)

/-- All blocks but those of X are as they were; the streams are as they were; no block has gone. -/
structure Frm (X : Nat → Prop) (w w' : World) : Prop where
  os : w'.os = w.os
  tape : w'.tape = w.tape
  output : w'.output = w.output
  size : w.heap.size ≤ w'.heap.size
  block : ∀ k, k < w.heap.size → ¬ X k → w'.heap[k]? = w.heap[k]?

theorem Frm.refl (X : Nat → Prop) (w : World) : Frm X w w := ⟨rfl, rfl, rfl, Nat.le_refl _, fun _ _ _ => rfl⟩
/-- One after the other; of the second's blocks only those that were there at the start count. -/
theorem Frm.next {X Y : Nat → Prop} {a b c : World} (h : Frm X a b) (k : Frm Y b c) (hxy : ∀ i, i < a.heap.size → Y i → X i) : Frm X a c :=
  ⟨k.os.trans h.os, k.tape.trans h.tape, k.output.trans h.output, Nat.le_trans h.size k.size, fun i hi hx => (k.block i (Nat.lt_of_lt_of_le hi h.size) (fun hy => hx (hxy i hi hy))).trans (h.block i hi hx)⟩
theorem Frm.mono {X Y : Nat → Prop} {a b : World} (h : Frm X a b) (hxy : ∀ i, i < a.heap.size → X i → Y i) : Frm Y a b :=
  ⟨h.os, h.tape, h.output, h.size, fun i hi hy => h.block i hi (fun hx => hy (hxy i hi hx))⟩
theorem Frm.of_below {B : Nat} {a b : World} (h : Below B a b) : Frm (fun i => B ≤ i) a b := ⟨h.os, h.tape, h.output, h.size, fun i _ hx => h.block i (by omega)⟩
theorem Frm.of_new {X : Nat → Prop} {a b : World} (h : Below a.heap.size a b) : Frm X a b := ⟨h.os, h.tape, h.output, h.size, fun i hi _ => h.block i hi⟩
theorem Frm.of_grown {X : Nat → Prop} {a b : World} {row : Option Nat} (h : a.grownBy b row) (hr : ∀ k, row = some k → X k) : Frm X a b :=
  ⟨h.os, h.tape, h.output, h.size, fun i hi hx => h.block i hi (fun e => hx (hr i e.symm))⟩
theorem Frm.below {X : Nat → Prop} {B : Nat} {a b : World} (h : Frm X a b) (hB : B ≤ a.heap.size) (hx : ∀ i, X i → B ≤ i) : Below B a b :=
  ⟨h.os, h.tape, h.output, h.size, fun i hi => h.block i (Nat.lt_of_lt_of_le hi hB) (fun e => by have := hx i e; omega)⟩
theorem Frm.drew {X : Nat → Prop} {a b : World} (h : Frm X a b) : Frm X a b.drew := ⟨h.os, h.tape, h.output, h.size, h.block⟩
theorem Frm.drewN {X : Nat → Prop} {a b : World} (h : Frm X a b) (q : Nat) : Frm X a (b.drewN q) := ⟨h.os, h.tape, h.output, h.size, h.block⟩
theorem Frm.alloc {X : Nat → Prop} {a b : World} (h : Frm X a b) (o : Obj) : Frm X a (b.alloc o) :=
  h.next (Frm.of_new (X := X) ((Below.refl _ _).alloc (Nat.le_refl _) o)) (fun _ _ h => h)
theorem Frm.setCell {X : Nat → Prop} {a b : World} (h : Frm X a b) {p : Addr} (hp : X p.block) (v : Value) : Frm X a (b.setCell p v) :=
  ⟨h.os, h.tape, h.output, by simpa [World.setCell] using h.size, fun i hi hx => (Below.heap_setCell b p v i (fun e => hx (by rw [e]; exact hp))).trans (h.block i hi hx)⟩
theorem Frm.cell {X : Nat → Prop} {a b : World} (h : Frm X a b) {p : Addr} (hlt : p.block < a.heap.size) (hx : ¬ X p.block) : b.cell? p = a.cell? p := World.cell?_of_block (h.block _ hlt hx)
theorem Frm.frozen {X : Nat → Prop} {a b : World} (h : Frm X a b) {p : Addr} (hlt : p.block < a.heap.size) (hx : ¬ X p.block) : b.frozen? p = a.frozen? p := World.frozen?_of_block (h.block _ hlt hx)

/-- An own slice stays, if its row is not among what has changed. -/
theorem own_frm {X : Nat → Prop} {a b : World} {B : Nat} {e : TypeId} {size : Nat} {v : Value} {n : Nat} {xs : List Value} (h : a.ownsRow B e size v n xs) (f : Frm X a b) (hx : ∀ k, v.ownBlock = some k → ¬ X k) : b.ownsRow B e size v n xs := by
  refine ⟨h.1, ?_⟩
  rcases h.2 with h2 | ⟨gb, cap, cur, hv, hb, hh, r⟩
  · exact .inl h2
  · refine .inr ⟨gb, cap, cur, hv, hb, ?_, r⟩
    rw [f.block gb (Array.getElem?_eq_some_iff.1 hh).1 (hx gb (by rw [hv]; rfl))]
    exact hh

/-- A slice with the address A reads as these cells, and its block is not among X. -/
def RdX (X : Nat → Prop) (w : World) (A : Option Addr) (xs : List Value) : Prop := xs = [] ∨ ∃ b o : Nat, A = some ⟨b, o, none⟩ ∧ b < w.heap.size ∧ ¬ X b ∧ ∀ j u, xs[j]? = some u → w.cell? ⟨b, o + j, none⟩ = some u

theorem RdX.rd {X : Nat → Prop} {w : World} {A : Option Addr} {xs : List Value} (h : RdX X w A xs) : Rd w A xs := by
  rcases h with h | ⟨b, o, h1, h2, _, h3⟩
  · exact .inl h
  · exact .inr ⟨b, o, h1, h2, h3⟩
theorem RdX.frm {X Y Z : Nat → Prop} {w w' : World} {A : Option Addr} {xs : List Value} (h : RdX X w A xs) (f : Frm Y w w') (hy : ∀ i, i < w.heap.size → Y i → X i) (hz : ∀ i, i < w.heap.size → Z i → X i) : RdX Z w' A xs := by
  rcases h with h | ⟨b, o, h1, h2, hx, h3⟩
  · exact .inl h
  · exact .inr ⟨b, o, h1, Nat.lt_of_lt_of_le h2 f.size, fun hzz => hx (hz b h2 hzz), fun j u hu => (f.cell (p := ⟨b, o + j, none⟩) h2 (fun e => hx (hy b h2 e))).trans (h3 j u hu)⟩
theorem RdX.of_own {X : Nat → Prop} {w : World} {B : Nat} {e : TypeId} {A : Option Addr} {n c : Nat} {xs : List Value} {size : Nat} (h : w.ownsRow B e size (.slice A n c) n xs) (hx : ∀ k, (Value.slice A n c).ownBlock = some k → ¬ X k) : RdX X w A xs := by
  rcases Rd.of_own h with h1 | ⟨b, o, h1, h2, h3⟩
  · exact .inl h1
  · exact .inr ⟨b, o, h1, h2, hx b (by rw [h1]; rfl), h3⟩
theorem Rd.to_new {X : Nat → Prop} {w : World} {A : Option Addr} {xs : List Value} (h : Rd w A xs) (hx : ∀ k, X k → w.heap.size ≤ k) : RdX X w A xs := by
  rcases h with h | ⟨b, o, h1, h2, h3⟩
  · exact .inl h
  · exact .inr ⟨b, o, h1, h2, fun e => by have := hx b e; omega, h3⟩

/-- append onto an own slice: the new one lies in the old row, or in a new block. -/
theorem run_append_wide_at {P : Program} (w : World) (base : Nat) (t ty e : TypeId) (i : TypeInfo) (z : Value) (size bytes : Nat) (ht : P.underlying t = some (.slice e)) (hi : P.info? e = some i) (hz : i.zero = some z)
    (hsize : i.size = size) (hby : i.bytes = bytes) (hzs : z.cells.size = size) (hsz : 0 < size)
    (v : Value) (n : Nat) (xs : List Value) (hown : w.ownsRow base e size v n xs)
    (a : Addr) (m c : Nat) (news : List Value) (hl : news.length = m * size) (hnews : ∀ j u, news[j]? = some u → w.cell? (a.add j) = some u) (h1 : ∀ u ∈ news, u.oneCell' = true)
    (h63 : n + m ≤ maxLen) (hbytes : ((n + m) + (n + m) / 4 + 192) * bytes ≤ 281474976710656) (hbase : base ≤ w.heap.size) :
    ∃ v' w', (Builtin.append_ #[t, t] ty #[v, .slice (some a) m c]).run P w = .ok v' w' ∧ w'.ownsRow base e size v' (n + m) (xs ++ news) ∧ w.grownBy w' v.ownBlock ∧
      (v'.ownBlock = v.ownBlock ∨ v'.ownBlock = some w.heap.size) := by
  obtain ⟨v', w', hr, h2, h3, h4⟩ := run_append_own_wide (P := P) w base t ty e i z size bytes ht hi hz hsize hby hzs hsz v n xs hown a m c news hl hnews h1 h63 hbytes hbase
  refine ⟨v', w', hr, h2, h3, ?_⟩
  subst hsize
  subst hby
  have hsm : n + m ≤ 9223372036854775807 := by simp only [maxLen] at h63; omega
  rcases hown.2 with ⟨rfl, rfl⟩ | ⟨gb, cap, cur, rfl, hbg, hg, hnc, hcm, hcs, htake⟩
  · by_cases hm : m = 0
    · rw [h4.2 ⟨rfl, hm⟩]; exact .inl rfl
    · have hx := run_append_nil (P := P) w t ty e i z ht hi hz a m c news hl hnews (by omega) (by omega) (Nat.le_trans (Nat.mul_le_mul_right _ (by omega)) hbytes)
      rw [hx] at hr
      injection hr with hr _
      rw [← hr]
      exact .inr rfl
  · by_cases hroom : n + m ≤ cap
    · have hx := run_append_room (P := P) w t ty e i ht hi gb n cap cur hg a m c news hl hnews h1 hroom (by rw [hl, hcs, ← Nat.add_mul]; exact Nat.mul_le_mul_right _ hroom)
      rw [hx] at hr
      injection hr with hr _
      rw [← hr]
      exact .inl rfl
    · have hx := run_append_grow (P := P) w t ty e i z ht hi hz ⟨gb, 0, none⟩ n cap xs hown.1 (hown.cells (g := gb) rfl) a m c news hl hnews (by omega) (by omega) (growslice_fits_wide (by omega) hbytes)
      rw [hx] at hr
      injection hr with hr _
      rw [← hr]
      exact .inr rfl
end Go.Proofs.Ytadacjndepkfeaa
