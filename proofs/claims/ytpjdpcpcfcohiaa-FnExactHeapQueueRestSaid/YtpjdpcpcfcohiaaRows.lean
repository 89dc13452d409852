/-
  No cell of these rows narrows 'for every input' (looked for: loops, veiled, ifaces, maps, wideKeys, modest, calm, conditions, laid).
  DERIVED. THE GIVEN ROWS OF THIS SEAT. 11 by the template 'for every input the law returns true; each argument reads behind the call as it read before'; 0 by the template 'total and deterministic' (their statements: YtpjdpcpcfcohiaaTotals.lean).
  GIVEN WITH THE SEED: the statements are not yours to turn. If you find one false, say at which input.
  Laid BY PROGRAM, IN A SANDBOX (cutbox-rows.mjs): the forced cells as the released guide's own fill.sh prints them over the translation d274aae68fa1bec7… (all of the seat's roots in one cut). By AI agents, Wed Nov 11 2026. No macro, syntax, notation, axiom, sorry.
-/
import Derived.Test.YtpjdpcpcfcohiaaChecked
import GoSem.Claim
import GoSem.ClaimJoined
import GoSem.ClaimMapViews
import Derived.JoinedTies
import Derived.KernelRfl
namespace Go.Proofs.Ytpjdpcpcfcohiaa
/- THE CELL 'sum', in the pinned program and in every row, IS THE sha256 OF THE DUMP (.gsa) THAT YtpjdpcpcfcohiaaProg.lean LOADS. Nothing in Lean hashes anything: it is a label: what it is worth is what the hold of that sum in a sandbox is worth. -/
noncomputable def Try.pinned : Pinned := { name := "ytpjdpcpcfcohiaa", sum := "d274aae68fa1bec71d50a083aa08f2b5ea920acb26db781648d5a4311ccce1fc", checked := Try.checked }
namespace Rows
def none {H : Type} : Left H := { results := [], args := [] }

/-- 'laws.FnExactHeapQueue': WHATEVER THE INPUT: true; the input reads as it did. -/
def fnExactHeapQueueSpec : ChangeSpec := { name := "fnExactHeapQueue", fn := fun _ => fun
  | [d] => { results := [.lit (.bool true)], args := [d] }
  | _ => none }
def fnExactHeapQueueRow : OpenClaim := { program := "ytpjdpcpcfcohiaa", sum := "d274aae68fa1bec71d50a083aa08f2b5ea920acb26db781648d5a4311ccce1fc", func := "loop.example/lib-g01086/laws.FnExactHeapQueue", spec := "fnExactHeapQueue", unfollowed := true, recurses := true, apart := false }
def FnExactHeapQueueSaid : Prop := fnExactHeapQueueRow.holds Try.pinned (OpenSpec.ofChange fnExactHeapQueueSpec)

/-- ITS FALSE NEIGHBOUR: 'it returns false'. Refute it at one input. -/
def fnExactHeapQueueWrong : ChangeSpec := { name := "fnExactHeapQueue", fn := fun _ => fun
  | [d] => { results := [.lit (.bool false)], args := [d] }
  | _ => none }
def FnExactHeapQueueWrongFalsely : Prop := fnExactHeapQueueRow.holds Try.pinned (OpenSpec.ofChange fnExactHeapQueueWrong)

/-- 'laws.FnExactHeapQueueRest': WHATEVER THE INPUT: true; the input reads as it did. -/
def fnExactHeapQueueRestSpec : ChangeSpec := { name := "fnExactHeapQueueRest", fn := fun _ => fun
  | [d] => { results := [.lit (.bool true)], args := [d] }
  | _ => none }
def fnExactHeapQueueRestRow : OpenClaim := { program := "ytpjdpcpcfcohiaa", sum := "d274aae68fa1bec71d50a083aa08f2b5ea920acb26db781648d5a4311ccce1fc", func := "loop.example/lib-g01086/laws.FnExactHeapQueueRest", spec := "fnExactHeapQueueRest", unfollowed := true, recurses := true, apart := false }
def FnExactHeapQueueRestSaid : Prop := fnExactHeapQueueRestRow.holds Try.pinned (OpenSpec.ofChange fnExactHeapQueueRestSpec)

/-- ITS FALSE NEIGHBOUR: 'it returns false'. Refute it at one input. -/
def fnExactHeapQueueRestWrong : ChangeSpec := { name := "fnExactHeapQueueRest", fn := fun _ => fun
  | [d] => { results := [.lit (.bool false)], args := [d] }
  | _ => none }
def FnExactHeapQueueRestWrongFalsely : Prop := fnExactHeapQueueRestRow.holds Try.pinned (OpenSpec.ofChange fnExactHeapQueueRestWrong)

/-- 'laws.FnQueueFix': WHATEVER THE INPUT: true; the input reads as it did. -/
def fnQueueFixSpec : ChangeSpec := { name := "fnQueueFix", fn := fun _ => fun
  | [d1, d2, d3] => { results := [.lit (.bool true)], args := [d1, d2, d3] }
  | _ => none }
def fnQueueFixRow : OpenClaim := { program := "ytpjdpcpcfcohiaa", sum := "d274aae68fa1bec71d50a083aa08f2b5ea920acb26db781648d5a4311ccce1fc", func := "loop.example/lib-g01086/laws.FnQueueFix", spec := "fnQueueFix", unfollowed := true, recurses := true, apart := false }
def FnQueueFixSaid : Prop := fnQueueFixRow.holds Try.pinned (OpenSpec.ofChange fnQueueFixSpec)

/-- ITS FALSE NEIGHBOUR: 'it returns false'. Refute it at one input. -/
def fnQueueFixWrong : ChangeSpec := { name := "fnQueueFix", fn := fun _ => fun
  | [d1, d2, d3] => { results := [.lit (.bool false)], args := [d1, d2, d3] }
  | _ => none }
def FnQueueFixWrongFalsely : Prop := fnQueueFixRow.holds Try.pinned (OpenSpec.ofChange fnQueueFixWrong)

/-- 'laws.FnQueueFixNothing': WHATEVER THE INPUT: true; the input reads as it did. -/
def fnQueueFixNothingSpec : ChangeSpec := { name := "fnQueueFixNothing", fn := fun _ => fun
  | [d1, d2] => { results := [.lit (.bool true)], args := [d1, d2] }
  | _ => none }
def fnQueueFixNothingRow : OpenClaim := { program := "ytpjdpcpcfcohiaa", sum := "d274aae68fa1bec71d50a083aa08f2b5ea920acb26db781648d5a4311ccce1fc", func := "loop.example/lib-g01086/laws.FnQueueFixNothing", spec := "fnQueueFixNothing", unfollowed := true, recurses := true, apart := false }
def FnQueueFixNothingSaid : Prop := fnQueueFixNothingRow.holds Try.pinned (OpenSpec.ofChange fnQueueFixNothingSpec)

/-- ITS FALSE NEIGHBOUR: 'it returns false'. Refute it at one input. -/
def fnQueueFixNothingWrong : ChangeSpec := { name := "fnQueueFixNothing", fn := fun _ => fun
  | [d1, d2] => { results := [.lit (.bool false)], args := [d1, d2] }
  | _ => none }
def FnQueueFixNothingWrongFalsely : Prop := fnQueueFixNothingRow.holds Try.pinned (OpenSpec.ofChange fnQueueFixNothingWrong)

/-- 'laws.FnQueueStable': WHATEVER THE INPUT: true; the input reads as it did. -/
def fnQueueStableSpec : ChangeSpec := { name := "fnQueueStable", fn := fun _ => fun
  | [d] => { results := [.lit (.bool true)], args := [d] }
  | _ => none }
def fnQueueStableRow : OpenClaim := { program := "ytpjdpcpcfcohiaa", sum := "d274aae68fa1bec71d50a083aa08f2b5ea920acb26db781648d5a4311ccce1fc", func := "loop.example/lib-g01086/laws.FnQueueStable", spec := "fnQueueStable", unfollowed := true, recurses := true, apart := false }
def FnQueueStableSaid : Prop := fnQueueStableRow.holds Try.pinned (OpenSpec.ofChange fnQueueStableSpec)

/-- ITS FALSE NEIGHBOUR: 'it returns false'. Refute it at one input. -/
def fnQueueStableWrong : ChangeSpec := { name := "fnQueueStable", fn := fun _ => fun
  | [d] => { results := [.lit (.bool false)], args := [d] }
  | _ => none }
def FnQueueStableWrongFalsely : Prop := fnQueueStableRow.holds Try.pinned (OpenSpec.ofChange fnQueueStableWrong)

/-- 'laws.FnQueueDrained': WHATEVER THE INPUT: true; the input reads as it did. -/
def fnQueueDrainedSpec : ChangeSpec := { name := "fnQueueDrained", fn := fun _ => fun
  | [d] => { results := [.lit (.bool true)], args := [d] }
  | _ => none }
def fnQueueDrainedRow : OpenClaim := { program := "ytpjdpcpcfcohiaa", sum := "d274aae68fa1bec71d50a083aa08f2b5ea920acb26db781648d5a4311ccce1fc", func := "loop.example/lib-g01086/laws.FnQueueDrained", spec := "fnQueueDrained", unfollowed := true, recurses := true, apart := false }
def FnQueueDrainedSaid : Prop := fnQueueDrainedRow.holds Try.pinned (OpenSpec.ofChange fnQueueDrainedSpec)

/-- ITS FALSE NEIGHBOUR: 'it returns false'. Refute it at one input. -/
def fnQueueDrainedWrong : ChangeSpec := { name := "fnQueueDrained", fn := fun _ => fun
  | [d] => { results := [.lit (.bool false)], args := [d] }
  | _ => none }
def FnQueueDrainedWrongFalsely : Prop := fnQueueDrainedRow.holds Try.pinned (OpenSpec.ofChange fnQueueDrainedWrong)

/-- 'laws.FnQueueInit': WHATEVER THE INPUT: true; the input reads as it did. -/
def fnQueueInitSpec : ChangeSpec := { name := "fnQueueInit", fn := fun _ => fun
  | [d1, d2] => { results := [.lit (.bool true)], args := [d1, d2] }
  | _ => none }
def fnQueueInitRow : OpenClaim := { program := "ytpjdpcpcfcohiaa", sum := "d274aae68fa1bec71d50a083aa08f2b5ea920acb26db781648d5a4311ccce1fc", func := "loop.example/lib-g01086/laws.FnQueueInit", spec := "fnQueueInit", unfollowed := true, recurses := true, apart := false }
def FnQueueInitSaid : Prop := fnQueueInitRow.holds Try.pinned (OpenSpec.ofChange fnQueueInitSpec)

/-- ITS FALSE NEIGHBOUR: 'it returns false'. Refute it at one input. -/
def fnQueueInitWrong : ChangeSpec := { name := "fnQueueInit", fn := fun _ => fun
  | [d1, d2] => { results := [.lit (.bool false)], args := [d1, d2] }
  | _ => none }
def FnQueueInitWrongFalsely : Prop := fnQueueInitRow.holds Try.pinned (OpenSpec.ofChange fnQueueInitWrong)

/-- 'laws.FnQueueOnce': WHATEVER THE INPUT: true; the input reads as it did. -/
def fnQueueOnceSpec : ChangeSpec := { name := "fnQueueOnce", fn := fun _ => fun
  | [d] => { results := [.lit (.bool true)], args := [d] }
  | _ => none }
def fnQueueOnceRow : OpenClaim := { program := "ytpjdpcpcfcohiaa", sum := "d274aae68fa1bec71d50a083aa08f2b5ea920acb26db781648d5a4311ccce1fc", func := "loop.example/lib-g01086/laws.FnQueueOnce", spec := "fnQueueOnce", unfollowed := true, recurses := true, apart := false }
def FnQueueOnceSaid : Prop := fnQueueOnceRow.holds Try.pinned (OpenSpec.ofChange fnQueueOnceSpec)

/-- ITS FALSE NEIGHBOUR: 'it returns false'. Refute it at one input. -/
def fnQueueOnceWrong : ChangeSpec := { name := "fnQueueOnce", fn := fun _ => fun
  | [d] => { results := [.lit (.bool false)], args := [d] }
  | _ => none }
def FnQueueOnceWrongFalsely : Prop := fnQueueOnceRow.holds Try.pinned (OpenSpec.ofChange fnQueueOnceWrong)

/-- 'laws.FnQueueRemove': WHATEVER THE INPUT: true; the input reads as it did. -/
def fnQueueRemoveSpec : ChangeSpec := { name := "fnQueueRemove", fn := fun _ => fun
  | [d1, d2] => { results := [.lit (.bool true)], args := [d1, d2] }
  | _ => none }
def fnQueueRemoveRow : OpenClaim := { program := "ytpjdpcpcfcohiaa", sum := "d274aae68fa1bec71d50a083aa08f2b5ea920acb26db781648d5a4311ccce1fc", func := "loop.example/lib-g01086/laws.FnQueueRemove", spec := "fnQueueRemove", unfollowed := true, recurses := true, apart := false }
def FnQueueRemoveSaid : Prop := fnQueueRemoveRow.holds Try.pinned (OpenSpec.ofChange fnQueueRemoveSpec)

/-- ITS FALSE NEIGHBOUR: 'it returns false'. Refute it at one input. -/
def fnQueueRemoveWrong : ChangeSpec := { name := "fnQueueRemove", fn := fun _ => fun
  | [d1, d2] => { results := [.lit (.bool false)], args := [d1, d2] }
  | _ => none }
def FnQueueRemoveWrongFalsely : Prop := fnQueueRemoveRow.holds Try.pinned (OpenSpec.ofChange fnQueueRemoveWrong)

/-- 'laws.FnQueueHeap': WHATEVER THE INPUT: true; the input reads as it did. -/
def fnQueueHeapSpec : ChangeSpec := { name := "fnQueueHeap", fn := fun _ => fun
  | [d] => { results := [.lit (.bool true)], args := [d] }
  | _ => none }
def fnQueueHeapRow : OpenClaim := { program := "ytpjdpcpcfcohiaa", sum := "d274aae68fa1bec71d50a083aa08f2b5ea920acb26db781648d5a4311ccce1fc", func := "loop.example/lib-g01086/laws.FnQueueHeap", spec := "fnQueueHeap", unfollowed := true, recurses := true, apart := false }
def FnQueueHeapSaid : Prop := fnQueueHeapRow.holds Try.pinned (OpenSpec.ofChange fnQueueHeapSpec)

/-- ITS FALSE NEIGHBOUR: 'it returns false'. Refute it at one input. -/
def fnQueueHeapWrong : ChangeSpec := { name := "fnQueueHeap", fn := fun _ => fun
  | [d] => { results := [.lit (.bool false)], args := [d] }
  | _ => none }
def FnQueueHeapWrongFalsely : Prop := fnQueueHeapRow.holds Try.pinned (OpenSpec.ofChange fnQueueHeapWrong)

/-- 'laws.FnQueueIndexes': WHATEVER THE INPUT: true; the input reads as it did. -/
def fnQueueIndexesSpec : ChangeSpec := { name := "fnQueueIndexes", fn := fun _ => fun
  | [d] => { results := [.lit (.bool true)], args := [d] }
  | _ => none }
def fnQueueIndexesRow : OpenClaim := { program := "ytpjdpcpcfcohiaa", sum := "d274aae68fa1bec71d50a083aa08f2b5ea920acb26db781648d5a4311ccce1fc", func := "loop.example/lib-g01086/laws.FnQueueIndexes", spec := "fnQueueIndexes", unfollowed := true, recurses := true, apart := false }
def FnQueueIndexesSaid : Prop := fnQueueIndexesRow.holds Try.pinned (OpenSpec.ofChange fnQueueIndexesSpec)

/-- ITS FALSE NEIGHBOUR: 'it returns false'. Refute it at one input. -/
def fnQueueIndexesWrong : ChangeSpec := { name := "fnQueueIndexes", fn := fun _ => fun
  | [d] => { results := [.lit (.bool false)], args := [d] }
  | _ => none }
def FnQueueIndexesWrongFalsely : Prop := fnQueueIndexesRow.holds Try.pinned (OpenSpec.ofChange fnQueueIndexesWrong)

/- THE SECOND FORM. 'bulk': how many values and letters a reading holds, each counted each time it is reached (what is shared counts as often as it is met; a slice's spare places count too). A statement '..UptoSaid' is the law's where the arguments, and the package variables that the reading takes, are together of bulk at most 1048576: NARROWER than '..Said'. Prove '..Said' where nothing that the law and all that it calls make is longer than what came in: it says more and counts as full. Else prove '..UptoSaid'. A law counts once. -/
mutual
def uptoBulk {H : Type} : DataW H → Nat
  | .lit (.string bytes) => bytes.length + 1
  | .lit _ => 1
  | .nil => 1
  | .ptr d => uptoBulk d + 1
  | .slice elems spare => uptoBulkAll elems + uptoBulkAll spare + 1
  | .agg parts => uptoBulkAll parts + 1
  | .iface _ d => uptoBulk d + 1
  | .map entries => uptoBulkEntries entries + 1
  | .held _ => 1
def uptoBulkAll {H : Type} : List (DataW H) → Nat
  | [] => 0
  | d :: r => uptoBulk d + uptoBulkAll r
def uptoBulkEntries {H : Type} : List (Lit × DataW H) → Nat
  | [] => 0
  | x :: r => uptoBulkEntry x + uptoBulkEntries r
def uptoBulkEntry {H : Type} : Lit × DataW H → Nat
  | (.string bytes, d) => bytes.length + uptoBulk d + 1
  | (_, d) => uptoBulk d + 1
 end
def uptoSmall : (H : Type) → List (DataW H) → Bool := fun _ ds => decide (uptoBulkAll ds ≤ 1048576)
def OpenSpec.upto (s : _root_.Go.ChangeSpec) : _root_.Go.OpenSpec := { _root_.Go.OpenSpec.ofChange s with cond := some uptoSmall }

/-- 'laws.FnExactHeapQueue', WHERE WHAT IT READS IS OF BULK AT MOST 1048576: true; the input reads as it did. -/
def fnExactHeapQueueUptoRow : OpenClaim := { program := "ytpjdpcpcfcohiaa", sum := "d274aae68fa1bec71d50a083aa08f2b5ea920acb26db781648d5a4311ccce1fc", func := "loop.example/lib-g01086/laws.FnExactHeapQueue", spec := "fnExactHeapQueue", unfollowed := true, recurses := true, apart := false, narrowed := true }
def FnExactHeapQueueUptoSaid : Prop := fnExactHeapQueueUptoRow.holds Try.pinned (OpenSpec.upto fnExactHeapQueueSpec)

/-- 'laws.FnExactHeapQueueRest', WHERE WHAT IT READS IS OF BULK AT MOST 1048576: true; the input reads as it did. -/
def fnExactHeapQueueRestUptoRow : OpenClaim := { program := "ytpjdpcpcfcohiaa", sum := "d274aae68fa1bec71d50a083aa08f2b5ea920acb26db781648d5a4311ccce1fc", func := "loop.example/lib-g01086/laws.FnExactHeapQueueRest", spec := "fnExactHeapQueueRest", unfollowed := true, recurses := true, apart := false, narrowed := true }
def FnExactHeapQueueRestUptoSaid : Prop := fnExactHeapQueueRestUptoRow.holds Try.pinned (OpenSpec.upto fnExactHeapQueueRestSpec)

/-- 'laws.FnQueueFix', WHERE WHAT IT READS IS OF BULK AT MOST 1048576: true; the input reads as it did. -/
def fnQueueFixUptoRow : OpenClaim := { program := "ytpjdpcpcfcohiaa", sum := "d274aae68fa1bec71d50a083aa08f2b5ea920acb26db781648d5a4311ccce1fc", func := "loop.example/lib-g01086/laws.FnQueueFix", spec := "fnQueueFix", unfollowed := true, recurses := true, apart := false, narrowed := true }
def FnQueueFixUptoSaid : Prop := fnQueueFixUptoRow.holds Try.pinned (OpenSpec.upto fnQueueFixSpec)

/-- 'laws.FnQueueFixNothing', WHERE WHAT IT READS IS OF BULK AT MOST 1048576: true; the input reads as it did. -/
def fnQueueFixNothingUptoRow : OpenClaim := { program := "ytpjdpcpcfcohiaa", sum := "d274aae68fa1bec71d50a083aa08f2b5ea920acb26db781648d5a4311ccce1fc", func := "loop.example/lib-g01086/laws.FnQueueFixNothing", spec := "fnQueueFixNothing", unfollowed := true, recurses := true, apart := false, narrowed := true }
def FnQueueFixNothingUptoSaid : Prop := fnQueueFixNothingUptoRow.holds Try.pinned (OpenSpec.upto fnQueueFixNothingSpec)

/-- 'laws.FnQueueStable', WHERE WHAT IT READS IS OF BULK AT MOST 1048576: true; the input reads as it did. -/
def fnQueueStableUptoRow : OpenClaim := { program := "ytpjdpcpcfcohiaa", sum := "d274aae68fa1bec71d50a083aa08f2b5ea920acb26db781648d5a4311ccce1fc", func := "loop.example/lib-g01086/laws.FnQueueStable", spec := "fnQueueStable", unfollowed := true, recurses := true, apart := false, narrowed := true }
def FnQueueStableUptoSaid : Prop := fnQueueStableUptoRow.holds Try.pinned (OpenSpec.upto fnQueueStableSpec)

/-- 'laws.FnQueueDrained', WHERE WHAT IT READS IS OF BULK AT MOST 1048576: true; the input reads as it did. -/
def fnQueueDrainedUptoRow : OpenClaim := { program := "ytpjdpcpcfcohiaa", sum := "d274aae68fa1bec71d50a083aa08f2b5ea920acb26db781648d5a4311ccce1fc", func := "loop.example/lib-g01086/laws.FnQueueDrained", spec := "fnQueueDrained", unfollowed := true, recurses := true, apart := false, narrowed := true }
def FnQueueDrainedUptoSaid : Prop := fnQueueDrainedUptoRow.holds Try.pinned (OpenSpec.upto fnQueueDrainedSpec)

/-- 'laws.FnQueueInit', WHERE WHAT IT READS IS OF BULK AT MOST 1048576: true; the input reads as it did. -/
def fnQueueInitUptoRow : OpenClaim := { program := "ytpjdpcpcfcohiaa", sum := "d274aae68fa1bec71d50a083aa08f2b5ea920acb26db781648d5a4311ccce1fc", func := "loop.example/lib-g01086/laws.FnQueueInit", spec := "fnQueueInit", unfollowed := true, recurses := true, apart := false, narrowed := true }
def FnQueueInitUptoSaid : Prop := fnQueueInitUptoRow.holds Try.pinned (OpenSpec.upto fnQueueInitSpec)

/-- 'laws.FnQueueOnce', WHERE WHAT IT READS IS OF BULK AT MOST 1048576: true; the input reads as it did. -/
def fnQueueOnceUptoRow : OpenClaim := { program := "ytpjdpcpcfcohiaa", sum := "d274aae68fa1bec71d50a083aa08f2b5ea920acb26db781648d5a4311ccce1fc", func := "loop.example/lib-g01086/laws.FnQueueOnce", spec := "fnQueueOnce", unfollowed := true, recurses := true, apart := false, narrowed := true }
def FnQueueOnceUptoSaid : Prop := fnQueueOnceUptoRow.holds Try.pinned (OpenSpec.upto fnQueueOnceSpec)

/-- 'laws.FnQueueRemove', WHERE WHAT IT READS IS OF BULK AT MOST 1048576: true; the input reads as it did. -/
def fnQueueRemoveUptoRow : OpenClaim := { program := "ytpjdpcpcfcohiaa", sum := "d274aae68fa1bec71d50a083aa08f2b5ea920acb26db781648d5a4311ccce1fc", func := "loop.example/lib-g01086/laws.FnQueueRemove", spec := "fnQueueRemove", unfollowed := true, recurses := true, apart := false, narrowed := true }
def FnQueueRemoveUptoSaid : Prop := fnQueueRemoveUptoRow.holds Try.pinned (OpenSpec.upto fnQueueRemoveSpec)

/-- 'laws.FnQueueHeap', WHERE WHAT IT READS IS OF BULK AT MOST 1048576: true; the input reads as it did. -/
def fnQueueHeapUptoRow : OpenClaim := { program := "ytpjdpcpcfcohiaa", sum := "d274aae68fa1bec71d50a083aa08f2b5ea920acb26db781648d5a4311ccce1fc", func := "loop.example/lib-g01086/laws.FnQueueHeap", spec := "fnQueueHeap", unfollowed := true, recurses := true, apart := false, narrowed := true }
def FnQueueHeapUptoSaid : Prop := fnQueueHeapUptoRow.holds Try.pinned (OpenSpec.upto fnQueueHeapSpec)

/-- 'laws.FnQueueIndexes', WHERE WHAT IT READS IS OF BULK AT MOST 1048576: true; the input reads as it did. -/
def fnQueueIndexesUptoRow : OpenClaim := { program := "ytpjdpcpcfcohiaa", sum := "d274aae68fa1bec71d50a083aa08f2b5ea920acb26db781648d5a4311ccce1fc", func := "loop.example/lib-g01086/laws.FnQueueIndexes", spec := "fnQueueIndexes", unfollowed := true, recurses := true, apart := false, narrowed := true }
def FnQueueIndexesUptoSaid : Prop := fnQueueIndexesUptoRow.holds Try.pinned (OpenSpec.upto fnQueueIndexesSpec)

end Rows
end Go.Proofs.Ytpjdpcpcfcohiaa
