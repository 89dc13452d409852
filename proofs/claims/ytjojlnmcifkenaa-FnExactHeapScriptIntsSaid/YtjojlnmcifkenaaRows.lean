/-
  No cell of these rows narrows 'for every input' (looked for: loops, veiled, ifaces, maps, wideKeys, modest, calm, conditions, laid).
  DERIVED. THE GIVEN ROWS OF THIS SEAT. 8 by the template 'for every input the law returns true; each argument reads behind the call as it read before'; 0 by the template 'total and deterministic' (their statements: YtjojlnmcifkenaaTotals.lean).
  GIVEN WITH THE SEED: the statements are not yours to turn. If you find one false, say at which input.
  Laid BY PROGRAM, IN A SANDBOX (cutbox-rows.mjs): the forced cells as the released guide's own fill.sh prints them over the translation df65d52c60ca883e… (all of the seat's roots in one cut). By AI agents, Wed Nov 11 2026. No macro, syntax, notation, axiom, sorry.
-/
import Derived.Test.YtjojlnmcifkenaaChecked
import GoSem.Claim
import GoSem.ClaimJoined
import GoSem.ClaimMapViews
import Derived.JoinedTies
import Derived.KernelRfl
namespace Go.Proofs.Ytjojlnmcifkenaa
/- THE CELL 'sum', in the pinned program and in every row, IS THE sha256 OF THE DUMP (.gsa) THAT YtjojlnmcifkenaaProg.lean LOADS. Nothing in Lean hashes anything: it is a label: what it is worth is what the hold of that sum in a sandbox is worth. -/
noncomputable def Try.pinned : Pinned := { name := "ytjojlnmcifkenaa", sum := "df65d52c60ca883e353e2381ebcc4720303fb1d30de43cfd40a8ac24353cf651", checked := Try.checked }
namespace Rows
def none {H : Type} : Left H := { results := [], args := [] }

/-- 'laws.FnExactHeapScriptInts': WHATEVER THE INPUT: true; the input reads as it did. -/
def fnExactHeapScriptIntsSpec : ChangeSpec := { name := "fnExactHeapScriptInts", fn := fun _ => fun
  | [d1, d2] => { results := [.lit (.bool true)], args := [d1, d2] }
  | _ => none }
def fnExactHeapScriptIntsRow : OpenClaim := { program := "ytjojlnmcifkenaa", sum := "df65d52c60ca883e353e2381ebcc4720303fb1d30de43cfd40a8ac24353cf651", func := "loop.example/lib-g01086/laws.FnExactHeapScriptInts", spec := "fnExactHeapScriptInts", unfollowed := true, recurses := true, apart := false }
def FnExactHeapScriptIntsSaid : Prop := fnExactHeapScriptIntsRow.holds Try.pinned (OpenSpec.ofChange fnExactHeapScriptIntsSpec)

/-- ITS FALSE NEIGHBOUR: 'it returns false'. Refute it at one input. -/
def fnExactHeapScriptIntsWrong : ChangeSpec := { name := "fnExactHeapScriptInts", fn := fun _ => fun
  | [d1, d2] => { results := [.lit (.bool false)], args := [d1, d2] }
  | _ => none }
def FnExactHeapScriptIntsWrongFalsely : Prop := fnExactHeapScriptIntsRow.holds Try.pinned (OpenSpec.ofChange fnExactHeapScriptIntsWrong)

/-- 'laws.FnReplaceLeast': WHATEVER THE INPUT: true; the input reads as it did. -/
def fnReplaceLeastSpec : ChangeSpec := { name := "fnReplaceLeast", fn := fun _ => fun
  | [d1, d2] => { results := [.lit (.bool true)], args := [d1, d2] }
  | _ => none }
def fnReplaceLeastRow : OpenClaim := { program := "ytjojlnmcifkenaa", sum := "df65d52c60ca883e353e2381ebcc4720303fb1d30de43cfd40a8ac24353cf651", func := "loop.example/lib-g01086/laws.FnReplaceLeast", spec := "fnReplaceLeast", unfollowed := true, recurses := true, apart := false }
def FnReplaceLeastSaid : Prop := fnReplaceLeastRow.holds Try.pinned (OpenSpec.ofChange fnReplaceLeastSpec)

/-- ITS FALSE NEIGHBOUR: 'it returns false'. Refute it at one input. -/
def fnReplaceLeastWrong : ChangeSpec := { name := "fnReplaceLeast", fn := fun _ => fun
  | [d1, d2] => { results := [.lit (.bool false)], args := [d1, d2] }
  | _ => none }
def FnReplaceLeastWrongFalsely : Prop := fnReplaceLeastRow.holds Try.pinned (OpenSpec.ofChange fnReplaceLeastWrong)

/-- 'laws.FnScriptCut': WHATEVER THE INPUT: true; the input reads as it did. -/
def fnScriptCutSpec : ChangeSpec := { name := "fnScriptCut", fn := fun _ => fun
  | [d1, d2, d3] => { results := [.lit (.bool true)], args := [d1, d2, d3] }
  | _ => none }
def fnScriptCutRow : OpenClaim := { program := "ytjojlnmcifkenaa", sum := "df65d52c60ca883e353e2381ebcc4720303fb1d30de43cfd40a8ac24353cf651", func := "loop.example/lib-g01086/laws.FnScriptCut", spec := "fnScriptCut", unfollowed := true, recurses := true, apart := false }
def FnScriptCutSaid : Prop := fnScriptCutRow.holds Try.pinned (OpenSpec.ofChange fnScriptCutSpec)

/-- ITS FALSE NEIGHBOUR: 'it returns false'. Refute it at one input. -/
def fnScriptCutWrong : ChangeSpec := { name := "fnScriptCut", fn := fun _ => fun
  | [d1, d2, d3] => { results := [.lit (.bool false)], args := [d1, d2, d3] }
  | _ => none }
def FnScriptCutWrongFalsely : Prop := fnScriptCutRow.holds Try.pinned (OpenSpec.ofChange fnScriptCutWrong)

/-- 'laws.FnScriptInit': WHATEVER THE INPUT: true; the input reads as it did. -/
def fnScriptInitSpec : ChangeSpec := { name := "fnScriptInit", fn := fun _ => fun
  | [d1, d2, d3] => { results := [.lit (.bool true)], args := [d1, d2, d3] }
  | _ => none }
def fnScriptInitRow : OpenClaim := { program := "ytjojlnmcifkenaa", sum := "df65d52c60ca883e353e2381ebcc4720303fb1d30de43cfd40a8ac24353cf651", func := "loop.example/lib-g01086/laws.FnScriptInit", spec := "fnScriptInit", unfollowed := true, recurses := true, apart := false }
def FnScriptInitSaid : Prop := fnScriptInitRow.holds Try.pinned (OpenSpec.ofChange fnScriptInitSpec)

/-- ITS FALSE NEIGHBOUR: 'it returns false'. Refute it at one input. -/
def fnScriptInitWrong : ChangeSpec := { name := "fnScriptInit", fn := fun _ => fun
  | [d1, d2, d3] => { results := [.lit (.bool false)], args := [d1, d2, d3] }
  | _ => none }
def FnScriptInitWrongFalsely : Prop := fnScriptInitRow.holds Try.pinned (OpenSpec.ofChange fnScriptInitWrong)

/-- 'laws.FnScriptRemoves': WHATEVER THE INPUT: true; the input reads as it did. -/
def fnScriptRemovesSpec : ChangeSpec := { name := "fnScriptRemoves", fn := fun _ => fun
  | [d1, d2] => { results := [.lit (.bool true)], args := [d1, d2] }
  | _ => none }
def fnScriptRemovesRow : OpenClaim := { program := "ytjojlnmcifkenaa", sum := "df65d52c60ca883e353e2381ebcc4720303fb1d30de43cfd40a8ac24353cf651", func := "loop.example/lib-g01086/laws.FnScriptRemoves", spec := "fnScriptRemoves", unfollowed := true, recurses := true, apart := false }
def FnScriptRemovesSaid : Prop := fnScriptRemovesRow.holds Try.pinned (OpenSpec.ofChange fnScriptRemovesSpec)

/-- ITS FALSE NEIGHBOUR: 'it returns false'. Refute it at one input. -/
def fnScriptRemovesWrong : ChangeSpec := { name := "fnScriptRemoves", fn := fun _ => fun
  | [d1, d2] => { results := [.lit (.bool false)], args := [d1, d2] }
  | _ => none }
def FnScriptRemovesWrongFalsely : Prop := fnScriptRemovesRow.holds Try.pinned (OpenSpec.ofChange fnScriptRemovesWrong)

/-- 'laws.FnMerge': WHATEVER THE INPUT: true; the input reads as it did. -/
def fnMergeSpec : ChangeSpec := { name := "fnMerge", fn := fun _ => fun
  | [d1, d2] => { results := [.lit (.bool true)], args := [d1, d2] }
  | _ => none }
def fnMergeRow : OpenClaim := { program := "ytjojlnmcifkenaa", sum := "df65d52c60ca883e353e2381ebcc4720303fb1d30de43cfd40a8ac24353cf651", func := "loop.example/lib-g01086/laws.FnMerge", spec := "fnMerge", unfollowed := true, recurses := true, apart := false }
def FnMergeSaid : Prop := fnMergeRow.holds Try.pinned (OpenSpec.ofChange fnMergeSpec)

/-- ITS FALSE NEIGHBOUR: 'it returns false'. Refute it at one input. -/
def fnMergeWrong : ChangeSpec := { name := "fnMerge", fn := fun _ => fun
  | [d1, d2] => { results := [.lit (.bool false)], args := [d1, d2] }
  | _ => none }
def FnMergeWrongFalsely : Prop := fnMergeRow.holds Try.pinned (OpenSpec.ofChange fnMergeWrong)

/-- 'laws.FnPushThenPop': WHATEVER THE INPUT: true; the input reads as it did. -/
def fnPushThenPopSpec : ChangeSpec := { name := "fnPushThenPop", fn := fun _ => fun
  | [d1, d2] => { results := [.lit (.bool true)], args := [d1, d2] }
  | _ => none }
def fnPushThenPopRow : OpenClaim := { program := "ytjojlnmcifkenaa", sum := "df65d52c60ca883e353e2381ebcc4720303fb1d30de43cfd40a8ac24353cf651", func := "loop.example/lib-g01086/laws.FnPushThenPop", spec := "fnPushThenPop", unfollowed := true, recurses := true, apart := false }
def FnPushThenPopSaid : Prop := fnPushThenPopRow.holds Try.pinned (OpenSpec.ofChange fnPushThenPopSpec)

/-- ITS FALSE NEIGHBOUR: 'it returns false'. Refute it at one input. -/
def fnPushThenPopWrong : ChangeSpec := { name := "fnPushThenPop", fn := fun _ => fun
  | [d1, d2] => { results := [.lit (.bool false)], args := [d1, d2] }
  | _ => none }
def FnPushThenPopWrongFalsely : Prop := fnPushThenPopRow.holds Try.pinned (OpenSpec.ofChange fnPushThenPopWrong)

/-- 'laws.FnScriptPops': WHATEVER THE INPUT: true; the input reads as it did. -/
def fnScriptPopsSpec : ChangeSpec := { name := "fnScriptPops", fn := fun _ => fun
  | [d] => { results := [.lit (.bool true)], args := [d] }
  | _ => none }
def fnScriptPopsRow : OpenClaim := { program := "ytjojlnmcifkenaa", sum := "df65d52c60ca883e353e2381ebcc4720303fb1d30de43cfd40a8ac24353cf651", func := "loop.example/lib-g01086/laws.FnScriptPops", spec := "fnScriptPops", unfollowed := true, recurses := true, apart := false }
def FnScriptPopsSaid : Prop := fnScriptPopsRow.holds Try.pinned (OpenSpec.ofChange fnScriptPopsSpec)

/-- ITS FALSE NEIGHBOUR: 'it returns false'. Refute it at one input. -/
def fnScriptPopsWrong : ChangeSpec := { name := "fnScriptPops", fn := fun _ => fun
  | [d] => { results := [.lit (.bool false)], args := [d] }
  | _ => none }
def FnScriptPopsWrongFalsely : Prop := fnScriptPopsRow.holds Try.pinned (OpenSpec.ofChange fnScriptPopsWrong)

/- THE SECOND FORM. 'bulk': how many values and letters a reading holds, each counted each time it is reached (what is shared counts as often as it is met; a slice's spare places count too). A statement '..UptoSaid' is the law's where the arguments, and the package variables that the reading takes, are together of bulk at most 1048576: NARROWER than '..Said'. Prove '..Said' where nothing that the law and all that it calls make is longer than what came in: it says more and counts as full. Else prove '..UptoSaid'. A law counts once. -/
mutual
def uptoBulk {H : Type} : DataW H → Nat
  | .lit (.string bytes) => bytes.length + 1
  | .lit _ => 1
  | .nil => 1
  | .ptr d => uptoBulk d + 1
  | .slice elems spare => uptoBulkAll elems + uptoBulkAll spare + 1
  | .agg parts => uptoBulkAll parts + 1
  | .iface _ d => uptoBulk d + 1
  | .map entries => uptoBulkEntries entries + 1
  | .held _ => 1
def uptoBulkAll {H : Type} : List (DataW H) → Nat
  | [] => 0
  | d :: r => uptoBulk d + uptoBulkAll r
def uptoBulkEntries {H : Type} : List (Lit × DataW H) → Nat
  | [] => 0
  | x :: r => uptoBulkEntry x + uptoBulkEntries r
def uptoBulkEntry {H : Type} : Lit × DataW H → Nat
  | (.string bytes, d) => bytes.length + uptoBulk d + 1
  | (_, d) => uptoBulk d + 1
 end
def uptoSmall : (H : Type) → List (DataW H) → Bool := fun _ ds => decide (uptoBulkAll ds ≤ 1048576)
def OpenSpec.upto (s : _root_.Go.ChangeSpec) : _root_.Go.OpenSpec := { _root_.Go.OpenSpec.ofChange s with cond := some uptoSmall }

/-- 'laws.FnExactHeapScriptInts', WHERE WHAT IT READS IS OF BULK AT MOST 1048576: true; the input reads as it did. -/
def fnExactHeapScriptIntsUptoRow : OpenClaim := { program := "ytjojlnmcifkenaa", sum := "df65d52c60ca883e353e2381ebcc4720303fb1d30de43cfd40a8ac24353cf651", func := "loop.example/lib-g01086/laws.FnExactHeapScriptInts", spec := "fnExactHeapScriptInts", unfollowed := true, recurses := true, apart := false, narrowed := true }
def FnExactHeapScriptIntsUptoSaid : Prop := fnExactHeapScriptIntsUptoRow.holds Try.pinned (OpenSpec.upto fnExactHeapScriptIntsSpec)

/-- 'laws.FnReplaceLeast', WHERE WHAT IT READS IS OF BULK AT MOST 1048576: true; the input reads as it did. -/
def fnReplaceLeastUptoRow : OpenClaim := { program := "ytjojlnmcifkenaa", sum := "df65d52c60ca883e353e2381ebcc4720303fb1d30de43cfd40a8ac24353cf651", func := "loop.example/lib-g01086/laws.FnReplaceLeast", spec := "fnReplaceLeast", unfollowed := true, recurses := true, apart := false, narrowed := true }
def FnReplaceLeastUptoSaid : Prop := fnReplaceLeastUptoRow.holds Try.pinned (OpenSpec.upto fnReplaceLeastSpec)

/-- 'laws.FnScriptCut', WHERE WHAT IT READS IS OF BULK AT MOST 1048576: true; the input reads as it did. -/
def fnScriptCutUptoRow : OpenClaim := { program := "ytjojlnmcifkenaa", sum := "df65d52c60ca883e353e2381ebcc4720303fb1d30de43cfd40a8ac24353cf651", func := "loop.example/lib-g01086/laws.FnScriptCut", spec := "fnScriptCut", unfollowed := true, recurses := true, apart := false, narrowed := true }
def FnScriptCutUptoSaid : Prop := fnScriptCutUptoRow.holds Try.pinned (OpenSpec.upto fnScriptCutSpec)

/-- 'laws.FnScriptInit', WHERE WHAT IT READS IS OF BULK AT MOST 1048576: true; the input reads as it did. -/
def fnScriptInitUptoRow : OpenClaim := { program := "ytjojlnmcifkenaa", sum := "df65d52c60ca883e353e2381ebcc4720303fb1d30de43cfd40a8ac24353cf651", func := "loop.example/lib-g01086/laws.FnScriptInit", spec := "fnScriptInit", unfollowed := true, recurses := true, apart := false, narrowed := true }
def FnScriptInitUptoSaid : Prop := fnScriptInitUptoRow.holds Try.pinned (OpenSpec.upto fnScriptInitSpec)

/-- 'laws.FnScriptRemoves', WHERE WHAT IT READS IS OF BULK AT MOST 1048576: true; the input reads as it did. -/
def fnScriptRemovesUptoRow : OpenClaim := { program := "ytjojlnmcifkenaa", sum := "df65d52c60ca883e353e2381ebcc4720303fb1d30de43cfd40a8ac24353cf651", func := "loop.example/lib-g01086/laws.FnScriptRemoves", spec := "fnScriptRemoves", unfollowed := true, recurses := true, apart := false, narrowed := true }
def FnScriptRemovesUptoSaid : Prop := fnScriptRemovesUptoRow.holds Try.pinned (OpenSpec.upto fnScriptRemovesSpec)

/-- 'laws.FnMerge', WHERE WHAT IT READS IS OF BULK AT MOST 1048576: true; the input reads as it did. -/
def fnMergeUptoRow : OpenClaim := { program := "ytjojlnmcifkenaa", sum := "df65d52c60ca883e353e2381ebcc4720303fb1d30de43cfd40a8ac24353cf651", func := "loop.example/lib-g01086/laws.FnMerge", spec := "fnMerge", unfollowed := true, recurses := true, apart := false, narrowed := true }
def FnMergeUptoSaid : Prop := fnMergeUptoRow.holds Try.pinned (OpenSpec.upto fnMergeSpec)

/-- 'laws.FnPushThenPop', WHERE WHAT IT READS IS OF BULK AT MOST 1048576: true; the input reads as it did. -/
def fnPushThenPopUptoRow : OpenClaim := { program := "ytjojlnmcifkenaa", sum := "df65d52c60ca883e353e2381ebcc4720303fb1d30de43cfd40a8ac24353cf651", func := "loop.example/lib-g01086/laws.FnPushThenPop", spec := "fnPushThenPop", unfollowed := true, recurses := true, apart := false, narrowed := true }
def FnPushThenPopUptoSaid : Prop := fnPushThenPopUptoRow.holds Try.pinned (OpenSpec.upto fnPushThenPopSpec)

/-- 'laws.FnScriptPops', WHERE WHAT IT READS IS OF BULK AT MOST 1048576: true; the input reads as it did. -/
def fnScriptPopsUptoRow : OpenClaim := { program := "ytjojlnmcifkenaa", sum := "df65d52c60ca883e353e2381ebcc4720303fb1d30de43cfd40a8ac24353cf651", func := "loop.example/lib-g01086/laws.FnScriptPops", spec := "fnScriptPops", unfollowed := true, recurses := true, apart := false, narrowed := true }
def FnScriptPopsUptoSaid : Prop := fnScriptPopsUptoRow.holds Try.pinned (OpenSpec.upto fnScriptPopsSpec)

end Rows
end Go.Proofs.Ytjojlnmcifkenaa
