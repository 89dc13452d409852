/-
  No cell of these rows narrows 'for every input' (looked for: loops, veiled, ifaces, maps, wideKeys, modest, calm, conditions, laid).
  DERIVED. THE GIVEN ROWS OF THIS SEAT. 12 by the template 'for every input the law returns true; each argument reads behind the call as it read before'; 0 by the template 'total and deterministic' (their statements: YtndhpmdkbcbhpaaTotals.lean).
  GIVEN WITH THE SEED: the statements are not yours to turn. If you find one false, say at which input.
  Laid BY PROGRAM, IN A SANDBOX (cutbox-rows.mjs): the forced cells as the released guide's own fill.sh prints them over the translation a0deef142b436378… (all of the seat's roots in one cut). By AI agents, Wed Nov 11 2026. No macro, syntax, notation, axiom, sorry.
-/
import Derived.Test.YtndhpmdkbcbhpaaChecked
import GoSem.Claim
import GoSem.ClaimJoined
import GoSem.ClaimMapViews
import Derived.JoinedTies
import Derived.KernelRfl
namespace Go.Proofs.Ytndhpmdkbcbhpaa
/- THE CELL 'sum', in the pinned program and in every row, IS THE sha256 OF THE DUMP (.gsa) THAT YtndhpmdkbcbhpaaProg.lean LOADS. Nothing in Lean hashes anything: it is a label: what it is worth is what the hold of that sum in a sandbox is worth. -/
noncomputable def Try.pinned : Pinned := { name := "ytndhpmdkbcbhpaa", sum := "a0deef142b43637825371f7b5cc836e8aaad36c84a087a34066044fa25ddb849", checked := Try.checked }
namespace Rows
def none {H : Type} : Left H := { results := [], args := [] }

/-- 'laws.FnAnyFix': WHATEVER THE INPUT: true; the input reads as it did. -/
def fnAnyFixSpec : ChangeSpec := { name := "fnAnyFix", fn := fun _ => fun
  | [d1, d2, d3] => { results := [.lit (.bool true)], args := [d1, d2, d3] }
  | _ => none }
def fnAnyFixRow : OpenClaim := { program := "ytndhpmdkbcbhpaa", sum := "a0deef142b43637825371f7b5cc836e8aaad36c84a087a34066044fa25ddb849", func := "loop.example/lib-g01086/laws.FnAnyFix", spec := "fnAnyFix", unfollowed := true, recurses := true, apart := false }
def FnAnyFixSaid : Prop := fnAnyFixRow.holds Try.pinned (OpenSpec.ofChange fnAnyFixSpec)

/-- ITS FALSE NEIGHBOUR: 'it returns false'. Refute it at one input. -/
def fnAnyFixWrong : ChangeSpec := { name := "fnAnyFix", fn := fun _ => fun
  | [d1, d2, d3] => { results := [.lit (.bool false)], args := [d1, d2, d3] }
  | _ => none }
def FnAnyFixWrongFalsely : Prop := fnAnyFixRow.holds Try.pinned (OpenSpec.ofChange fnAnyFixWrong)

/-- 'laws.FnFix': WHATEVER THE INPUT: true; the input reads as it did. -/
def fnFixSpec : ChangeSpec := { name := "fnFix", fn := fun _ => fun
  | [d1, d2, d3] => { results := [.lit (.bool true)], args := [d1, d2, d3] }
  | _ => none }
def fnFixRow : OpenClaim := { program := "ytndhpmdkbcbhpaa", sum := "a0deef142b43637825371f7b5cc836e8aaad36c84a087a34066044fa25ddb849", func := "loop.example/lib-g01086/laws.FnFix", spec := "fnFix", unfollowed := true, recurses := true, apart := false }
def FnFixSaid : Prop := fnFixRow.holds Try.pinned (OpenSpec.ofChange fnFixSpec)

/-- ITS FALSE NEIGHBOUR: 'it returns false'. Refute it at one input. -/
def fnFixWrong : ChangeSpec := { name := "fnFix", fn := fun _ => fun
  | [d1, d2, d3] => { results := [.lit (.bool false)], args := [d1, d2, d3] }
  | _ => none }
def FnFixWrongFalsely : Prop := fnFixRow.holds Try.pinned (OpenSpec.ofChange fnFixWrong)

/-- 'laws.FnFixAsks': WHATEVER THE INPUT: true; the input reads as it did. -/
def fnFixAsksSpec : ChangeSpec := { name := "fnFixAsks", fn := fun _ => fun
  | [d1, d2, d3] => { results := [.lit (.bool true)], args := [d1, d2, d3] }
  | _ => none }
def fnFixAsksRow : OpenClaim := { program := "ytndhpmdkbcbhpaa", sum := "a0deef142b43637825371f7b5cc836e8aaad36c84a087a34066044fa25ddb849", func := "loop.example/lib-g01086/laws.FnFixAsks", spec := "fnFixAsks", unfollowed := true, recurses := true, apart := false }
def FnFixAsksSaid : Prop := fnFixAsksRow.holds Try.pinned (OpenSpec.ofChange fnFixAsksSpec)

/-- ITS FALSE NEIGHBOUR: 'it returns false'. Refute it at one input. -/
def fnFixAsksWrong : ChangeSpec := { name := "fnFixAsks", fn := fun _ => fun
  | [d1, d2, d3] => { results := [.lit (.bool false)], args := [d1, d2, d3] }
  | _ => none }
def FnFixAsksWrongFalsely : Prop := fnFixAsksRow.holds Try.pinned (OpenSpec.ofChange fnFixAsksWrong)

/-- 'laws.FnFixNothing': WHATEVER THE INPUT: true; the input reads as it did. -/
def fnFixNothingSpec : ChangeSpec := { name := "fnFixNothing", fn := fun _ => fun
  | [d1, d2] => { results := [.lit (.bool true)], args := [d1, d2] }
  | _ => none }
def fnFixNothingRow : OpenClaim := { program := "ytndhpmdkbcbhpaa", sum := "a0deef142b43637825371f7b5cc836e8aaad36c84a087a34066044fa25ddb849", func := "loop.example/lib-g01086/laws.FnFixNothing", spec := "fnFixNothing", unfollowed := true, recurses := true, apart := false }
def FnFixNothingSaid : Prop := fnFixNothingRow.holds Try.pinned (OpenSpec.ofChange fnFixNothingSpec)

/-- ITS FALSE NEIGHBOUR: 'it returns false'. Refute it at one input. -/
def fnFixNothingWrong : ChangeSpec := { name := "fnFixNothing", fn := fun _ => fun
  | [d1, d2] => { results := [.lit (.bool false)], args := [d1, d2] }
  | _ => none }
def FnFixNothingWrongFalsely : Prop := fnFixNothingRow.holds Try.pinned (OpenSpec.ofChange fnFixNothingWrong)

/-- 'laws.FnFixSwaps': WHATEVER THE INPUT: true; the input reads as it did. -/
def fnFixSwapsSpec : ChangeSpec := { name := "fnFixSwaps", fn := fun _ => fun
  | [d1, d2, d3] => { results := [.lit (.bool true)], args := [d1, d2, d3] }
  | _ => none }
def fnFixSwapsRow : OpenClaim := { program := "ytndhpmdkbcbhpaa", sum := "a0deef142b43637825371f7b5cc836e8aaad36c84a087a34066044fa25ddb849", func := "loop.example/lib-g01086/laws.FnFixSwaps", spec := "fnFixSwaps", unfollowed := true, recurses := true, apart := false }
def FnFixSwapsSaid : Prop := fnFixSwapsRow.holds Try.pinned (OpenSpec.ofChange fnFixSwapsSpec)

/-- ITS FALSE NEIGHBOUR: 'it returns false'. Refute it at one input. -/
def fnFixSwapsWrong : ChangeSpec := { name := "fnFixSwaps", fn := fun _ => fun
  | [d1, d2, d3] => { results := [.lit (.bool false)], args := [d1, d2, d3] }
  | _ => none }
def FnFixSwapsWrongFalsely : Prop := fnFixSwapsRow.holds Try.pinned (OpenSpec.ofChange fnFixSwapsWrong)

/-- 'laws.FnGreatestSinks': WHATEVER THE INPUT: true; the input reads as it did. -/
def fnGreatestSinksSpec : ChangeSpec := { name := "fnGreatestSinks", fn := fun _ => fun
  | [d1, d2, d3] => { results := [.lit (.bool true)], args := [d1, d2, d3] }
  | _ => none }
def fnGreatestSinksRow : OpenClaim := { program := "ytndhpmdkbcbhpaa", sum := "a0deef142b43637825371f7b5cc836e8aaad36c84a087a34066044fa25ddb849", func := "loop.example/lib-g01086/laws.FnGreatestSinks", spec := "fnGreatestSinks", unfollowed := true, recurses := true, apart := false }
def FnGreatestSinksSaid : Prop := fnGreatestSinksRow.holds Try.pinned (OpenSpec.ofChange fnGreatestSinksSpec)

/-- ITS FALSE NEIGHBOUR: 'it returns false'. Refute it at one input. -/
def fnGreatestSinksWrong : ChangeSpec := { name := "fnGreatestSinks", fn := fun _ => fun
  | [d1, d2, d3] => { results := [.lit (.bool false)], args := [d1, d2, d3] }
  | _ => none }
def FnGreatestSinksWrongFalsely : Prop := fnGreatestSinksRow.holds Try.pinned (OpenSpec.ofChange fnGreatestSinksWrong)

/-- 'laws.FnLeastRises': WHATEVER THE INPUT: true; the input reads as it did. -/
def fnLeastRisesSpec : ChangeSpec := { name := "fnLeastRises", fn := fun _ => fun
  | [d1, d2, d3] => { results := [.lit (.bool true)], args := [d1, d2, d3] }
  | _ => none }
def fnLeastRisesRow : OpenClaim := { program := "ytndhpmdkbcbhpaa", sum := "a0deef142b43637825371f7b5cc836e8aaad36c84a087a34066044fa25ddb849", func := "loop.example/lib-g01086/laws.FnLeastRises", spec := "fnLeastRises", unfollowed := true, recurses := true, apart := false }
def FnLeastRisesSaid : Prop := fnLeastRisesRow.holds Try.pinned (OpenSpec.ofChange fnLeastRisesSpec)

/-- ITS FALSE NEIGHBOUR: 'it returns false'. Refute it at one input. -/
def fnLeastRisesWrong : ChangeSpec := { name := "fnLeastRises", fn := fun _ => fun
  | [d1, d2, d3] => { results := [.lit (.bool false)], args := [d1, d2, d3] }
  | _ => none }
def FnLeastRisesWrongFalsely : Prop := fnLeastRisesRow.holds Try.pinned (OpenSpec.ofChange fnLeastRisesWrong)

/-- 'laws.FnFixCalls': WHATEVER THE INPUT: true; the input reads as it did. -/
def fnFixCallsSpec : ChangeSpec := { name := "fnFixCalls", fn := fun _ => fun
  | [d1, d2, d3] => { results := [.lit (.bool true)], args := [d1, d2, d3] }
  | _ => none }
def fnFixCallsRow : OpenClaim := { program := "ytndhpmdkbcbhpaa", sum := "a0deef142b43637825371f7b5cc836e8aaad36c84a087a34066044fa25ddb849", func := "loop.example/lib-g01086/laws.FnFixCalls", spec := "fnFixCalls", unfollowed := true, recurses := true, apart := false }
def FnFixCallsSaid : Prop := fnFixCallsRow.holds Try.pinned (OpenSpec.ofChange fnFixCallsSpec)

/-- ITS FALSE NEIGHBOUR: 'it returns false'. Refute it at one input. -/
def fnFixCallsWrong : ChangeSpec := { name := "fnFixCalls", fn := fun _ => fun
  | [d1, d2, d3] => { results := [.lit (.bool false)], args := [d1, d2, d3] }
  | _ => none }
def FnFixCallsWrongFalsely : Prop := fnFixCallsRow.holds Try.pinned (OpenSpec.ofChange fnFixCallsWrong)

/-- 'laws.FnFixKeeps': WHATEVER THE INPUT: true; the input reads as it did. -/
def fnFixKeepsSpec : ChangeSpec := { name := "fnFixKeeps", fn := fun _ => fun
  | [d1, d2, d3] => { results := [.lit (.bool true)], args := [d1, d2, d3] }
  | _ => none }
def fnFixKeepsRow : OpenClaim := { program := "ytndhpmdkbcbhpaa", sum := "a0deef142b43637825371f7b5cc836e8aaad36c84a087a34066044fa25ddb849", func := "loop.example/lib-g01086/laws.FnFixKeeps", spec := "fnFixKeeps", unfollowed := true, recurses := true, apart := false }
def FnFixKeepsSaid : Prop := fnFixKeepsRow.holds Try.pinned (OpenSpec.ofChange fnFixKeepsSpec)

/-- ITS FALSE NEIGHBOUR: 'it returns false'. Refute it at one input. -/
def fnFixKeepsWrong : ChangeSpec := { name := "fnFixKeeps", fn := fun _ => fun
  | [d1, d2, d3] => { results := [.lit (.bool false)], args := [d1, d2, d3] }
  | _ => none }
def FnFixKeepsWrongFalsely : Prop := fnFixKeepsRow.holds Try.pinned (OpenSpec.ofChange fnFixKeepsWrong)

/-- 'laws.FnFixEach': WHATEVER THE INPUT: true; the input reads as it did. -/
def fnFixEachSpec : ChangeSpec := { name := "fnFixEach", fn := fun _ => fun
  | [d1, d2] => { results := [.lit (.bool true)], args := [d1, d2] }
  | _ => none }
def fnFixEachRow : OpenClaim := { program := "ytndhpmdkbcbhpaa", sum := "a0deef142b43637825371f7b5cc836e8aaad36c84a087a34066044fa25ddb849", func := "loop.example/lib-g01086/laws.FnFixEach", spec := "fnFixEach", unfollowed := true, recurses := true, apart := false }
def FnFixEachSaid : Prop := fnFixEachRow.holds Try.pinned (OpenSpec.ofChange fnFixEachSpec)

/-- ITS FALSE NEIGHBOUR: 'it returns false'. Refute it at one input. -/
def fnFixEachWrong : ChangeSpec := { name := "fnFixEach", fn := fun _ => fun
  | [d1, d2] => { results := [.lit (.bool false)], args := [d1, d2] }
  | _ => none }
def FnFixEachWrongFalsely : Prop := fnFixEachRow.holds Try.pinned (OpenSpec.ofChange fnFixEachWrong)

/-- 'laws.FnAnyRemove': WHATEVER THE INPUT: true; the input reads as it did. -/
def fnAnyRemoveSpec : ChangeSpec := { name := "fnAnyRemove", fn := fun _ => fun
  | [d1, d2] => { results := [.lit (.bool true)], args := [d1, d2] }
  | _ => none }
def fnAnyRemoveRow : OpenClaim := { program := "ytndhpmdkbcbhpaa", sum := "a0deef142b43637825371f7b5cc836e8aaad36c84a087a34066044fa25ddb849", func := "loop.example/lib-g01086/laws.FnAnyRemove", spec := "fnAnyRemove", unfollowed := true, recurses := true, apart := false }
def FnAnyRemoveSaid : Prop := fnAnyRemoveRow.holds Try.pinned (OpenSpec.ofChange fnAnyRemoveSpec)

/-- ITS FALSE NEIGHBOUR: 'it returns false'. Refute it at one input. -/
def fnAnyRemoveWrong : ChangeSpec := { name := "fnAnyRemove", fn := fun _ => fun
  | [d1, d2] => { results := [.lit (.bool false)], args := [d1, d2] }
  | _ => none }
def FnAnyRemoveWrongFalsely : Prop := fnAnyRemoveRow.holds Try.pinned (OpenSpec.ofChange fnAnyRemoveWrong)

/-- 'laws.FnRemove': WHATEVER THE INPUT: true; the input reads as it did. -/
def fnRemoveSpec : ChangeSpec := { name := "fnRemove", fn := fun _ => fun
  | [d1, d2] => { results := [.lit (.bool true)], args := [d1, d2] }
  | _ => none }
def fnRemoveRow : OpenClaim := { program := "ytndhpmdkbcbhpaa", sum := "a0deef142b43637825371f7b5cc836e8aaad36c84a087a34066044fa25ddb849", func := "loop.example/lib-g01086/laws.FnRemove", spec := "fnRemove", unfollowed := true, recurses := true, apart := false }
def FnRemoveSaid : Prop := fnRemoveRow.holds Try.pinned (OpenSpec.ofChange fnRemoveSpec)

/-- ITS FALSE NEIGHBOUR: 'it returns false'. Refute it at one input. -/
def fnRemoveWrong : ChangeSpec := { name := "fnRemove", fn := fun _ => fun
  | [d1, d2] => { results := [.lit (.bool false)], args := [d1, d2] }
  | _ => none }
def FnRemoveWrongFalsely : Prop := fnRemoveRow.holds Try.pinned (OpenSpec.ofChange fnRemoveWrong)

/- THE SECOND FORM. 'bulk': how many values and letters a reading holds, each counted each time it is reached (what is shared counts as often as it is met; a slice's spare places count too). A statement '..UptoSaid' is the law's where the arguments, and the package variables that the reading takes, are together of bulk at most 1048576: NARROWER than '..Said'. Prove '..Said' where nothing that the law and all that it calls make is longer than what came in: it says more and counts as full. Else prove '..UptoSaid'. A law counts once. -/
mutual
def uptoBulk {H : Type} : DataW H → Nat
  | .lit (.string bytes) => bytes.length + 1
  | .lit _ => 1
  | .nil => 1
  | .ptr d => uptoBulk d + 1
  | .slice elems spare => uptoBulkAll elems + uptoBulkAll spare + 1
  | .agg parts => uptoBulkAll parts + 1
  | .iface _ d => uptoBulk d + 1
  | .map entries => uptoBulkEntries entries + 1
  | .held _ => 1
def uptoBulkAll {H : Type} : List (DataW H) → Nat
  | [] => 0
  | d :: r => uptoBulk d + uptoBulkAll r
def uptoBulkEntries {H : Type} : List (Lit × DataW H) → Nat
  | [] => 0
  | x :: r => uptoBulkEntry x + uptoBulkEntries r
def uptoBulkEntry {H : Type} : Lit × DataW H → Nat
  | (.string bytes, d) => bytes.length + uptoBulk d + 1
  | (_, d) => uptoBulk d + 1
 end
def uptoSmall : (H : Type) → List (DataW H) → Bool := fun _ ds => decide (uptoBulkAll ds ≤ 1048576)
def OpenSpec.upto (s : _root_.Go.ChangeSpec) : _root_.Go.OpenSpec := { _root_.Go.OpenSpec.ofChange s with cond := some uptoSmall }

/-- 'laws.FnAnyFix', WHERE WHAT IT READS IS OF BULK AT MOST 1048576: true; the input reads as it did. -/
def fnAnyFixUptoRow : OpenClaim := { program := "ytndhpmdkbcbhpaa", sum := "a0deef142b43637825371f7b5cc836e8aaad36c84a087a34066044fa25ddb849", func := "loop.example/lib-g01086/laws.FnAnyFix", spec := "fnAnyFix", unfollowed := true, recurses := true, apart := false, narrowed := true }
def FnAnyFixUptoSaid : Prop := fnAnyFixUptoRow.holds Try.pinned (OpenSpec.upto fnAnyFixSpec)

/-- 'laws.FnFix', WHERE WHAT IT READS IS OF BULK AT MOST 1048576: true; the input reads as it did. -/
def fnFixUptoRow : OpenClaim := { program := "ytndhpmdkbcbhpaa", sum := "a0deef142b43637825371f7b5cc836e8aaad36c84a087a34066044fa25ddb849", func := "loop.example/lib-g01086/laws.FnFix", spec := "fnFix", unfollowed := true, recurses := true, apart := false, narrowed := true }
def FnFixUptoSaid : Prop := fnFixUptoRow.holds Try.pinned (OpenSpec.upto fnFixSpec)

/-- 'laws.FnFixAsks', WHERE WHAT IT READS IS OF BULK AT MOST 1048576: true; the input reads as it did. -/
def fnFixAsksUptoRow : OpenClaim := { program := "ytndhpmdkbcbhpaa", sum := "a0deef142b43637825371f7b5cc836e8aaad36c84a087a34066044fa25ddb849", func := "loop.example/lib-g01086/laws.FnFixAsks", spec := "fnFixAsks", unfollowed := true, recurses := true, apart := false, narrowed := true }
def FnFixAsksUptoSaid : Prop := fnFixAsksUptoRow.holds Try.pinned (OpenSpec.upto fnFixAsksSpec)

/-- 'laws.FnFixNothing', WHERE WHAT IT READS IS OF BULK AT MOST 1048576: true; the input reads as it did. -/
def fnFixNothingUptoRow : OpenClaim := { program := "ytndhpmdkbcbhpaa", sum := "a0deef142b43637825371f7b5cc836e8aaad36c84a087a34066044fa25ddb849", func := "loop.example/lib-g01086/laws.FnFixNothing", spec := "fnFixNothing", unfollowed := true, recurses := true, apart := false, narrowed := true }
def FnFixNothingUptoSaid : Prop := fnFixNothingUptoRow.holds Try.pinned (OpenSpec.upto fnFixNothingSpec)

/-- 'laws.FnFixSwaps', WHERE WHAT IT READS IS OF BULK AT MOST 1048576: true; the input reads as it did. -/
def fnFixSwapsUptoRow : OpenClaim := { program := "ytndhpmdkbcbhpaa", sum := "a0deef142b43637825371f7b5cc836e8aaad36c84a087a34066044fa25ddb849", func := "loop.example/lib-g01086/laws.FnFixSwaps", spec := "fnFixSwaps", unfollowed := true, recurses := true, apart := false, narrowed := true }
def FnFixSwapsUptoSaid : Prop := fnFixSwapsUptoRow.holds Try.pinned (OpenSpec.upto fnFixSwapsSpec)

/-- 'laws.FnGreatestSinks', WHERE WHAT IT READS IS OF BULK AT MOST 1048576: true; the input reads as it did. -/
def fnGreatestSinksUptoRow : OpenClaim := { program := "ytndhpmdkbcbhpaa", sum := "a0deef142b43637825371f7b5cc836e8aaad36c84a087a34066044fa25ddb849", func := "loop.example/lib-g01086/laws.FnGreatestSinks", spec := "fnGreatestSinks", unfollowed := true, recurses := true, apart := false, narrowed := true }
def FnGreatestSinksUptoSaid : Prop := fnGreatestSinksUptoRow.holds Try.pinned (OpenSpec.upto fnGreatestSinksSpec)

/-- 'laws.FnLeastRises', WHERE WHAT IT READS IS OF BULK AT MOST 1048576: true; the input reads as it did. -/
def fnLeastRisesUptoRow : OpenClaim := { program := "ytndhpmdkbcbhpaa", sum := "a0deef142b43637825371f7b5cc836e8aaad36c84a087a34066044fa25ddb849", func := "loop.example/lib-g01086/laws.FnLeastRises", spec := "fnLeastRises", unfollowed := true, recurses := true, apart := false, narrowed := true }
def FnLeastRisesUptoSaid : Prop := fnLeastRisesUptoRow.holds Try.pinned (OpenSpec.upto fnLeastRisesSpec)

/-- 'laws.FnFixCalls', WHERE WHAT IT READS IS OF BULK AT MOST 1048576: true; the input reads as it did. -/
def fnFixCallsUptoRow : OpenClaim := { program := "ytndhpmdkbcbhpaa", sum := "a0deef142b43637825371f7b5cc836e8aaad36c84a087a34066044fa25ddb849", func := "loop.example/lib-g01086/laws.FnFixCalls", spec := "fnFixCalls", unfollowed := true, recurses := true, apart := false, narrowed := true }
def FnFixCallsUptoSaid : Prop := fnFixCallsUptoRow.holds Try.pinned (OpenSpec.upto fnFixCallsSpec)

/-- 'laws.FnFixKeeps', WHERE WHAT IT READS IS OF BULK AT MOST 1048576: true; the input reads as it did. -/
def fnFixKeepsUptoRow : OpenClaim := { program := "ytndhpmdkbcbhpaa", sum := "a0deef142b43637825371f7b5cc836e8aaad36c84a087a34066044fa25ddb849", func := "loop.example/lib-g01086/laws.FnFixKeeps", spec := "fnFixKeeps", unfollowed := true, recurses := true, apart := false, narrowed := true }
def FnFixKeepsUptoSaid : Prop := fnFixKeepsUptoRow.holds Try.pinned (OpenSpec.upto fnFixKeepsSpec)

/-- 'laws.FnFixEach', WHERE WHAT IT READS IS OF BULK AT MOST 1048576: true; the input reads as it did. -/
def fnFixEachUptoRow : OpenClaim := { program := "ytndhpmdkbcbhpaa", sum := "a0deef142b43637825371f7b5cc836e8aaad36c84a087a34066044fa25ddb849", func := "loop.example/lib-g01086/laws.FnFixEach", spec := "fnFixEach", unfollowed := true, recurses := true, apart := false, narrowed := true }
def FnFixEachUptoSaid : Prop := fnFixEachUptoRow.holds Try.pinned (OpenSpec.upto fnFixEachSpec)

/-- 'laws.FnAnyRemove', WHERE WHAT IT READS IS OF BULK AT MOST 1048576: true; the input reads as it did. -/
def fnAnyRemoveUptoRow : OpenClaim := { program := "ytndhpmdkbcbhpaa", sum := "a0deef142b43637825371f7b5cc836e8aaad36c84a087a34066044fa25ddb849", func := "loop.example/lib-g01086/laws.FnAnyRemove", spec := "fnAnyRemove", unfollowed := true, recurses := true, apart := false, narrowed := true }
def FnAnyRemoveUptoSaid : Prop := fnAnyRemoveUptoRow.holds Try.pinned (OpenSpec.upto fnAnyRemoveSpec)

/-- 'laws.FnRemove', WHERE WHAT IT READS IS OF BULK AT MOST 1048576: true; the input reads as it did. -/
def fnRemoveUptoRow : OpenClaim := { program := "ytndhpmdkbcbhpaa", sum := "a0deef142b43637825371f7b5cc836e8aaad36c84a087a34066044fa25ddb849", func := "loop.example/lib-g01086/laws.FnRemove", spec := "fnRemove", unfollowed := true, recurses := true, apart := false, narrowed := true }
def FnRemoveUptoSaid : Prop := fnRemoveUptoRow.holds Try.pinned (OpenSpec.upto fnRemoveSpec)

end Rows
end Go.Proofs.Ytndhpmdkbcbhpaa
