/-
  No cell of these rows narrows 'for every input' (looked for: loops, veiled, ifaces, maps, wideKeys, modest, calm, conditions, laid).
  DERIVED. THE GIVEN ROWS OF THIS SEAT. 9 by the template 'for every input the law returns true; each argument reads behind the call as it read before'; 0 by the template 'total and deterministic' (their statements: YtfmfndpeiffehaaTotals.lean).
  GIVEN WITH THE SEED: the statements are not yours to turn. If you find one false, say at which input.
  Laid BY PROGRAM, IN A SANDBOX (cutbox-rows.mjs): the forced cells as the released guide's own fill.sh prints them over the translation d8e78576df4699b7… (all of the seat's roots in one cut). By AI agents, Wed Nov 11 2026. No macro, syntax, notation, axiom, sorry.
-/
import Derived.Test.YtfmfndpeiffehaaChecked
import GoSem.Claim
import GoSem.ClaimJoined
import GoSem.ClaimMapViews
import Derived.JoinedTies
import Derived.KernelRfl
namespace Go.Proofs.Ytfmfndpeiffehaa
/- THE CELL 'sum', in the pinned program and in every row, IS THE sha256 OF THE DUMP (.gsa) THAT YtfmfndpeiffehaaProg.lean LOADS. Nothing in Lean hashes anything: it is a label: what it is worth is what the hold of that sum in a sandbox is worth. -/
noncomputable def Try.pinned : Pinned := { name := "ytfmfndpeiffehaa", sum := "d8e78576df4699b7231a7e9bfc0df704023ad98fc43b086e4348e40aa1615eb9", checked := Try.checked }
namespace Rows
def none {H : Type} : Left H := { results := [], args := [] }

/-- 'laws.FnRemoveAsks': WHATEVER THE INPUT: true; the input reads as it did. -/
def fnRemoveAsksSpec : ChangeSpec := { name := "fnRemoveAsks", fn := fun _ => fun
  | [d1, d2] => { results := [.lit (.bool true)], args := [d1, d2] }
  | _ => none }
def fnRemoveAsksRow : OpenClaim := { program := "ytfmfndpeiffehaa", sum := "d8e78576df4699b7231a7e9bfc0df704023ad98fc43b086e4348e40aa1615eb9", func := "loop.example/lib-g01086/laws.FnRemoveAsks", spec := "fnRemoveAsks", unfollowed := true, recurses := true, apart := false }
def FnRemoveAsksSaid : Prop := fnRemoveAsksRow.holds Try.pinned (OpenSpec.ofChange fnRemoveAsksSpec)

/-- ITS FALSE NEIGHBOUR: 'it returns false'. Refute it at one input. -/
def fnRemoveAsksWrong : ChangeSpec := { name := "fnRemoveAsks", fn := fun _ => fun
  | [d1, d2] => { results := [.lit (.bool false)], args := [d1, d2] }
  | _ => none }
def FnRemoveAsksWrongFalsely : Prop := fnRemoveAsksRow.holds Try.pinned (OpenSpec.ofChange fnRemoveAsksWrong)

/-- 'laws.FnRemoveSwaps': WHATEVER THE INPUT: true; the input reads as it did. -/
def fnRemoveSwapsSpec : ChangeSpec := { name := "fnRemoveSwaps", fn := fun _ => fun
  | [d1, d2] => { results := [.lit (.bool true)], args := [d1, d2] }
  | _ => none }
def fnRemoveSwapsRow : OpenClaim := { program := "ytfmfndpeiffehaa", sum := "d8e78576df4699b7231a7e9bfc0df704023ad98fc43b086e4348e40aa1615eb9", func := "loop.example/lib-g01086/laws.FnRemoveSwaps", spec := "fnRemoveSwaps", unfollowed := true, recurses := true, apart := false }
def FnRemoveSwapsSaid : Prop := fnRemoveSwapsRow.holds Try.pinned (OpenSpec.ofChange fnRemoveSwapsSpec)

/-- ITS FALSE NEIGHBOUR: 'it returns false'. Refute it at one input. -/
def fnRemoveSwapsWrong : ChangeSpec := { name := "fnRemoveSwaps", fn := fun _ => fun
  | [d1, d2] => { results := [.lit (.bool false)], args := [d1, d2] }
  | _ => none }
def FnRemoveSwapsWrongFalsely : Prop := fnRemoveSwapsRow.holds Try.pinned (OpenSpec.ofChange fnRemoveSwapsWrong)

/-- 'laws.FnRemoveCalls': WHATEVER THE INPUT: true; the input reads as it did. -/
def fnRemoveCallsSpec : ChangeSpec := { name := "fnRemoveCalls", fn := fun _ => fun
  | [d1, d2] => { results := [.lit (.bool true)], args := [d1, d2] }
  | _ => none }
def fnRemoveCallsRow : OpenClaim := { program := "ytfmfndpeiffehaa", sum := "d8e78576df4699b7231a7e9bfc0df704023ad98fc43b086e4348e40aa1615eb9", func := "loop.example/lib-g01086/laws.FnRemoveCalls", spec := "fnRemoveCalls", unfollowed := true, recurses := true, apart := false }
def FnRemoveCallsSaid : Prop := fnRemoveCallsRow.holds Try.pinned (OpenSpec.ofChange fnRemoveCallsSpec)

/-- ITS FALSE NEIGHBOUR: 'it returns false'. Refute it at one input. -/
def fnRemoveCallsWrong : ChangeSpec := { name := "fnRemoveCalls", fn := fun _ => fun
  | [d1, d2] => { results := [.lit (.bool false)], args := [d1, d2] }
  | _ => none }
def FnRemoveCallsWrongFalsely : Prop := fnRemoveCallsRow.holds Try.pinned (OpenSpec.ofChange fnRemoveCallsWrong)

/-- 'laws.FnRemoveKeeps': WHATEVER THE INPUT: true; the input reads as it did. -/
def fnRemoveKeepsSpec : ChangeSpec := { name := "fnRemoveKeeps", fn := fun _ => fun
  | [d1, d2] => { results := [.lit (.bool true)], args := [d1, d2] }
  | _ => none }
def fnRemoveKeepsRow : OpenClaim := { program := "ytfmfndpeiffehaa", sum := "d8e78576df4699b7231a7e9bfc0df704023ad98fc43b086e4348e40aa1615eb9", func := "loop.example/lib-g01086/laws.FnRemoveKeeps", spec := "fnRemoveKeeps", unfollowed := true, recurses := true, apart := false }
def FnRemoveKeepsSaid : Prop := fnRemoveKeepsRow.holds Try.pinned (OpenSpec.ofChange fnRemoveKeepsSpec)

/-- ITS FALSE NEIGHBOUR: 'it returns false'. Refute it at one input. -/
def fnRemoveKeepsWrong : ChangeSpec := { name := "fnRemoveKeeps", fn := fun _ => fun
  | [d1, d2] => { results := [.lit (.bool false)], args := [d1, d2] }
  | _ => none }
def FnRemoveKeepsWrongFalsely : Prop := fnRemoveKeepsRow.holds Try.pinned (OpenSpec.ofChange fnRemoveKeepsWrong)

/-- 'laws.FnPopIsRemove': WHATEVER THE INPUT: true; the input reads as it did. -/
def fnPopIsRemoveSpec : ChangeSpec := { name := "fnPopIsRemove", fn := fun _ => fun
  | [d] => { results := [.lit (.bool true)], args := [d] }
  | _ => none }
def fnPopIsRemoveRow : OpenClaim := { program := "ytfmfndpeiffehaa", sum := "d8e78576df4699b7231a7e9bfc0df704023ad98fc43b086e4348e40aa1615eb9", func := "loop.example/lib-g01086/laws.FnPopIsRemove", spec := "fnPopIsRemove", unfollowed := true, recurses := true, apart := false }
def FnPopIsRemoveSaid : Prop := fnPopIsRemoveRow.holds Try.pinned (OpenSpec.ofChange fnPopIsRemoveSpec)

/-- ITS FALSE NEIGHBOUR: 'it returns false'. Refute it at one input. -/
def fnPopIsRemoveWrong : ChangeSpec := { name := "fnPopIsRemove", fn := fun _ => fun
  | [d] => { results := [.lit (.bool false)], args := [d] }
  | _ => none }
def FnPopIsRemoveWrongFalsely : Prop := fnPopIsRemoveRow.holds Try.pinned (OpenSpec.ofChange fnPopIsRemoveWrong)

/-- 'laws.FnRemoveEach': WHATEVER THE INPUT: true; the input reads as it did. -/
def fnRemoveEachSpec : ChangeSpec := { name := "fnRemoveEach", fn := fun _ => fun
  | [d] => { results := [.lit (.bool true)], args := [d] }
  | _ => none }
def fnRemoveEachRow : OpenClaim := { program := "ytfmfndpeiffehaa", sum := "d8e78576df4699b7231a7e9bfc0df704023ad98fc43b086e4348e40aa1615eb9", func := "loop.example/lib-g01086/laws.FnRemoveEach", spec := "fnRemoveEach", unfollowed := true, recurses := true, apart := false }
def FnRemoveEachSaid : Prop := fnRemoveEachRow.holds Try.pinned (OpenSpec.ofChange fnRemoveEachSpec)

/-- ITS FALSE NEIGHBOUR: 'it returns false'. Refute it at one input. -/
def fnRemoveEachWrong : ChangeSpec := { name := "fnRemoveEach", fn := fun _ => fun
  | [d] => { results := [.lit (.bool false)], args := [d] }
  | _ => none }
def FnRemoveEachWrongFalsely : Prop := fnRemoveEachRow.holds Try.pinned (OpenSpec.ofChange fnRemoveEachWrong)

/-- 'laws.FnRemovePops': WHATEVER THE INPUT: true; the input reads as it did. -/
def fnRemovePopsSpec : ChangeSpec := { name := "fnRemovePops", fn := fun _ => fun
  | [d1, d2] => { results := [.lit (.bool true)], args := [d1, d2] }
  | _ => none }
def fnRemovePopsRow : OpenClaim := { program := "ytfmfndpeiffehaa", sum := "d8e78576df4699b7231a7e9bfc0df704023ad98fc43b086e4348e40aa1615eb9", func := "loop.example/lib-g01086/laws.FnRemovePops", spec := "fnRemovePops", unfollowed := true, recurses := true, apart := false }
def FnRemovePopsSaid : Prop := fnRemovePopsRow.holds Try.pinned (OpenSpec.ofChange fnRemovePopsSpec)

/-- ITS FALSE NEIGHBOUR: 'it returns false'. Refute it at one input. -/
def fnRemovePopsWrong : ChangeSpec := { name := "fnRemovePops", fn := fun _ => fun
  | [d1, d2] => { results := [.lit (.bool false)], args := [d1, d2] }
  | _ => none }
def FnRemovePopsWrongFalsely : Prop := fnRemovePopsRow.holds Try.pinned (OpenSpec.ofChange fnRemovePopsWrong)

/-- 'laws.FnPopSameList': WHATEVER THE INPUT: true; the input reads as it did. -/
def fnPopSameListSpec : ChangeSpec := { name := "fnPopSameList", fn := fun _ => fun
  | [d] => { results := [.lit (.bool true)], args := [d] }
  | _ => none }
def fnPopSameListRow : OpenClaim := { program := "ytfmfndpeiffehaa", sum := "d8e78576df4699b7231a7e9bfc0df704023ad98fc43b086e4348e40aa1615eb9", func := "loop.example/lib-g01086/laws.FnPopSameList", spec := "fnPopSameList", unfollowed := true, recurses := true, apart := false }
def FnPopSameListSaid : Prop := fnPopSameListRow.holds Try.pinned (OpenSpec.ofChange fnPopSameListSpec)

/-- ITS FALSE NEIGHBOUR: 'it returns false'. Refute it at one input. -/
def fnPopSameListWrong : ChangeSpec := { name := "fnPopSameList", fn := fun _ => fun
  | [d] => { results := [.lit (.bool false)], args := [d] }
  | _ => none }
def FnPopSameListWrongFalsely : Prop := fnPopSameListRow.holds Try.pinned (OpenSpec.ofChange fnPopSameListWrong)

/-- 'laws.FnFixIsRemovePush': WHATEVER THE INPUT: true; the input reads as it did. -/
def fnFixIsRemovePushSpec : ChangeSpec := { name := "fnFixIsRemovePush", fn := fun _ => fun
  | [d1, d2, d3] => { results := [.lit (.bool true)], args := [d1, d2, d3] }
  | _ => none }
def fnFixIsRemovePushRow : OpenClaim := { program := "ytfmfndpeiffehaa", sum := "d8e78576df4699b7231a7e9bfc0df704023ad98fc43b086e4348e40aa1615eb9", func := "loop.example/lib-g01086/laws.FnFixIsRemovePush", spec := "fnFixIsRemovePush", unfollowed := true, recurses := true, apart := false }
def FnFixIsRemovePushSaid : Prop := fnFixIsRemovePushRow.holds Try.pinned (OpenSpec.ofChange fnFixIsRemovePushSpec)

/-- ITS FALSE NEIGHBOUR: 'it returns false'. Refute it at one input. -/
def fnFixIsRemovePushWrong : ChangeSpec := { name := "fnFixIsRemovePush", fn := fun _ => fun
  | [d1, d2, d3] => { results := [.lit (.bool false)], args := [d1, d2, d3] }
  | _ => none }
def FnFixIsRemovePushWrongFalsely : Prop := fnFixIsRemovePushRow.holds Try.pinned (OpenSpec.ofChange fnFixIsRemovePushWrong)

/- THE SECOND FORM. 'bulk': how many values and letters a reading holds, each counted each time it is reached (what is shared counts as often as it is met; a slice's spare places count too). A statement '..UptoSaid' is the law's where the arguments, and the package variables that the reading takes, are together of bulk at most 1048576: NARROWER than '..Said'. Prove '..Said' where nothing that the law and all that it calls make is longer than what came in: it says more and counts as full. Else prove '..UptoSaid'. A law counts once. -/
mutual
def uptoBulk {H : Type} : DataW H → Nat
  | .lit (.string bytes) => bytes.length + 1
  | .lit _ => 1
  | .nil => 1
  | .ptr d => uptoBulk d + 1
  | .slice elems spare => uptoBulkAll elems + uptoBulkAll spare + 1
  | .agg parts => uptoBulkAll parts + 1
  | .iface _ d => uptoBulk d + 1
  | .map entries => uptoBulkEntries entries + 1
  | .held _ => 1
def uptoBulkAll {H : Type} : List (DataW H) → Nat
  | [] => 0
  | d :: r => uptoBulk d + uptoBulkAll r
def uptoBulkEntries {H : Type} : List (Lit × DataW H) → Nat
  | [] => 0
  | x :: r => uptoBulkEntry x + uptoBulkEntries r
def uptoBulkEntry {H : Type} : Lit × DataW H → Nat
  | (.string bytes, d) => bytes.length + uptoBulk d + 1
  | (_, d) => uptoBulk d + 1
 end
def uptoSmall : (H : Type) → List (DataW H) → Bool := fun _ ds => decide (uptoBulkAll ds ≤ 1048576)
def OpenSpec.upto (s : _root_.Go.ChangeSpec) : _root_.Go.OpenSpec := { _root_.Go.OpenSpec.ofChange s with cond := some uptoSmall }

/-- 'laws.FnRemoveAsks', WHERE WHAT IT READS IS OF BULK AT MOST 1048576: true; the input reads as it did. -/
def fnRemoveAsksUptoRow : OpenClaim := { program := "ytfmfndpeiffehaa", sum := "d8e78576df4699b7231a7e9bfc0df704023ad98fc43b086e4348e40aa1615eb9", func := "loop.example/lib-g01086/laws.FnRemoveAsks", spec := "fnRemoveAsks", unfollowed := true, recurses := true, apart := false, narrowed := true }
def FnRemoveAsksUptoSaid : Prop := fnRemoveAsksUptoRow.holds Try.pinned (OpenSpec.upto fnRemoveAsksSpec)

/-- 'laws.FnRemoveSwaps', WHERE WHAT IT READS IS OF BULK AT MOST 1048576: true; the input reads as it did. -/
def fnRemoveSwapsUptoRow : OpenClaim := { program := "ytfmfndpeiffehaa", sum := "d8e78576df4699b7231a7e9bfc0df704023ad98fc43b086e4348e40aa1615eb9", func := "loop.example/lib-g01086/laws.FnRemoveSwaps", spec := "fnRemoveSwaps", unfollowed := true, recurses := true, apart := false, narrowed := true }
def FnRemoveSwapsUptoSaid : Prop := fnRemoveSwapsUptoRow.holds Try.pinned (OpenSpec.upto fnRemoveSwapsSpec)

/-- 'laws.FnRemoveCalls', WHERE WHAT IT READS IS OF BULK AT MOST 1048576: true; the input reads as it did. -/
def fnRemoveCallsUptoRow : OpenClaim := { program := "ytfmfndpeiffehaa", sum := "d8e78576df4699b7231a7e9bfc0df704023ad98fc43b086e4348e40aa1615eb9", func := "loop.example/lib-g01086/laws.FnRemoveCalls", spec := "fnRemoveCalls", unfollowed := true, recurses := true, apart := false, narrowed := true }
def FnRemoveCallsUptoSaid : Prop := fnRemoveCallsUptoRow.holds Try.pinned (OpenSpec.upto fnRemoveCallsSpec)

/-- 'laws.FnRemoveKeeps', WHERE WHAT IT READS IS OF BULK AT MOST 1048576: true; the input reads as it did. -/
def fnRemoveKeepsUptoRow : OpenClaim := { program := "ytfmfndpeiffehaa", sum := "d8e78576df4699b7231a7e9bfc0df704023ad98fc43b086e4348e40aa1615eb9", func := "loop.example/lib-g01086/laws.FnRemoveKeeps", spec := "fnRemoveKeeps", unfollowed := true, recurses := true, apart := false, narrowed := true }
def FnRemoveKeepsUptoSaid : Prop := fnRemoveKeepsUptoRow.holds Try.pinned (OpenSpec.upto fnRemoveKeepsSpec)

/-- 'laws.FnPopIsRemove', WHERE WHAT IT READS IS OF BULK AT MOST 1048576: true; the input reads as it did. -/
def fnPopIsRemoveUptoRow : OpenClaim := { program := "ytfmfndpeiffehaa", sum := "d8e78576df4699b7231a7e9bfc0df704023ad98fc43b086e4348e40aa1615eb9", func := "loop.example/lib-g01086/laws.FnPopIsRemove", spec := "fnPopIsRemove", unfollowed := true, recurses := true, apart := false, narrowed := true }
def FnPopIsRemoveUptoSaid : Prop := fnPopIsRemoveUptoRow.holds Try.pinned (OpenSpec.upto fnPopIsRemoveSpec)

/-- 'laws.FnRemoveEach', WHERE WHAT IT READS IS OF BULK AT MOST 1048576: true; the input reads as it did. -/
def fnRemoveEachUptoRow : OpenClaim := { program := "ytfmfndpeiffehaa", sum := "d8e78576df4699b7231a7e9bfc0df704023ad98fc43b086e4348e40aa1615eb9", func := "loop.example/lib-g01086/laws.FnRemoveEach", spec := "fnRemoveEach", unfollowed := true, recurses := true, apart := false, narrowed := true }
def FnRemoveEachUptoSaid : Prop := fnRemoveEachUptoRow.holds Try.pinned (OpenSpec.upto fnRemoveEachSpec)

/-- 'laws.FnRemovePops', WHERE WHAT IT READS IS OF BULK AT MOST 1048576: true; the input reads as it did. -/
def fnRemovePopsUptoRow : OpenClaim := { program := "ytfmfndpeiffehaa", sum := "d8e78576df4699b7231a7e9bfc0df704023ad98fc43b086e4348e40aa1615eb9", func := "loop.example/lib-g01086/laws.FnRemovePops", spec := "fnRemovePops", unfollowed := true, recurses := true, apart := false, narrowed := true }
def FnRemovePopsUptoSaid : Prop := fnRemovePopsUptoRow.holds Try.pinned (OpenSpec.upto fnRemovePopsSpec)

/-- 'laws.FnPopSameList', WHERE WHAT IT READS IS OF BULK AT MOST 1048576: true; the input reads as it did. -/
def fnPopSameListUptoRow : OpenClaim := { program := "ytfmfndpeiffehaa", sum := "d8e78576df4699b7231a7e9bfc0df704023ad98fc43b086e4348e40aa1615eb9", func := "loop.example/lib-g01086/laws.FnPopSameList", spec := "fnPopSameList", unfollowed := true, recurses := true, apart := false, narrowed := true }
def FnPopSameListUptoSaid : Prop := fnPopSameListUptoRow.holds Try.pinned (OpenSpec.upto fnPopSameListSpec)

/-- 'laws.FnFixIsRemovePush', WHERE WHAT IT READS IS OF BULK AT MOST 1048576: true; the input reads as it did. -/
def fnFixIsRemovePushUptoRow : OpenClaim := { program := "ytfmfndpeiffehaa", sum := "d8e78576df4699b7231a7e9bfc0df704023ad98fc43b086e4348e40aa1615eb9", func := "loop.example/lib-g01086/laws.FnFixIsRemovePush", spec := "fnFixIsRemovePush", unfollowed := true, recurses := true, apart := false, narrowed := true }
def FnFixIsRemovePushUptoSaid : Prop := fnFixIsRemovePushUptoRow.holds Try.pinned (OpenSpec.upto fnFixIsRemovePushSpec)

end Rows
end Go.Proofs.Ytfmfndpeiffehaa
