/-
  What functions that return a new list of items and an item leave; the heap of items as the functions of impl make it. No conditions but those that each theorem names.
-/
import Derived.Test.YtadacjndepkfeaaReaders
import Derived.Test.YtadacjndepkfeaaItemsPop
import Derived.Deep.RegionHeld3
namespace Go.Proofs.Ytadacjndepkfeaa
open Go.RowKit Go.Shelf
open Hp (g swp Ev)

/-- What a function that returns a new list of items and an item leaves. -/
def NewItsAnd (w : World) (l : List It) (x : It) (e : Ending) (w' : World) : Prop :=
  ∃ A c, e = .returned (.tuple #[.slice A l.length c, .agg #[.int .i64 x.1, .int .i64 x.2]]) ∧ w'.ownsRow w.heap.size 36 2 (.slice A l.length c) l.length (cls l) ∧ Below w.heap.size w w'

/-- The heap of items as the impl functions make it: the box of its variable behind a copy of the list. -/
theorem RI.start {w : World} {B : Nat} {A : Option Addr} {c N : Nat} {l : List It} (ho : w.ownsRow B 36 2 (.slice A l.length c) l.length (cls l)) (hB : B ≤ w.heap.size) (hl : l.length ≤ N) (hN : N < 4611686018427387904) :
    RI B w w.heap.size N l [] (w.alloc (.cells #[.slice A l.length c] 52)) :=
  ⟨⟨.slice A l.length c, heap_alloc_new _ _, ho.alloc _⟩, hB, (Below.refl _ _).alloc hB _, hl, hN⟩
end Go.Proofs.Ytadacjndepkfeaa
