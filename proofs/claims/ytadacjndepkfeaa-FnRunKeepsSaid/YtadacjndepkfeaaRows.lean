/-
  No cell of these rows narrows 'for every input' (looked for: loops, veiled, ifaces, maps, wideKeys, modest, calm, conditions, laid).
  DERIVED. THE GIVEN ROWS OF THIS SEAT. 12 by the template 'for every input the law returns true; each argument reads behind the call as it read before'; 0 by the template 'total and deterministic' (their statements: YtadacjndepkfeaaTotals.lean).
  GIVEN WITH THE SEED: the statements are not yours to turn. If you find one false, say at which input.
  Laid BY PROGRAM, IN A SANDBOX (cutbox-rows.mjs): the forced cells as the released guide's own fill.sh prints them over the translation c234c907f98ad23f… (all of the seat's roots in one cut). By AI agents, Wed Nov 11 2026. No macro, syntax, notation, axiom, sorry.
-/
import Derived.Test.YtadacjndepkfeaaChecked
import GoSem.Claim
import GoSem.ClaimJoined
import GoSem.ClaimMapViews
import Derived.JoinedTies
import Derived.KernelRfl
namespace Go.Proofs.Ytadacjndepkfeaa
/- THE CELL 'sum', in the pinned program and in every row, IS THE sha256 OF THE DUMP (.gsa) THAT YtadacjndepkfeaaProg.lean LOADS. Nothing in Lean hashes anything: it is a label: what it is worth is what the hold of that sum in a sandbox is worth. -/
noncomputable def Try.pinned : Pinned := { name := "ytadacjndepkfeaa", sum := "c234c907f98ad23f1aabd9da66013fc911e2b28695b11d1c22836acc087bb43b", checked := Try.checked }
namespace Rows
def none {H : Type} : Left H := { results := [], args := [] }

/-- 'laws.FnScriptSteps': WHATEVER THE INPUT: true; the input reads as it did. -/
def fnScriptStepsSpec : ChangeSpec := { name := "fnScriptSteps", fn := fun _ => fun
  | [d1, d2] => { results := [.lit (.bool true)], args := [d1, d2] }
  | _ => none }
def fnScriptStepsRow : OpenClaim := { program := "ytadacjndepkfeaa", sum := "c234c907f98ad23f1aabd9da66013fc911e2b28695b11d1c22836acc087bb43b", func := "loop.example/lib-g01086/laws.FnScriptSteps", spec := "fnScriptSteps", unfollowed := true, recurses := true, apart := false }
def FnScriptStepsSaid : Prop := fnScriptStepsRow.holds Try.pinned (OpenSpec.ofChange fnScriptStepsSpec)

/-- ITS FALSE NEIGHBOUR: 'it returns false'. Refute it at one input. -/
def fnScriptStepsWrong : ChangeSpec := { name := "fnScriptSteps", fn := fun _ => fun
  | [d1, d2] => { results := [.lit (.bool false)], args := [d1, d2] }
  | _ => none }
def FnScriptStepsWrongFalsely : Prop := fnScriptStepsRow.holds Try.pinned (OpenSpec.ofChange fnScriptStepsWrong)

/-- 'laws.FnColumns': WHATEVER THE INPUT: true; the input reads as it did. -/
def fnColumnsSpec : ChangeSpec := { name := "fnColumns", fn := fun _ => fun
  | [d1, d2] => { results := [.lit (.bool true)], args := [d1, d2] }
  | _ => none }
def fnColumnsRow : OpenClaim := { program := "ytadacjndepkfeaa", sum := "c234c907f98ad23f1aabd9da66013fc911e2b28695b11d1c22836acc087bb43b", func := "loop.example/lib-g01086/laws.FnColumns", spec := "fnColumns", unfollowed := true, recurses := true, apart := false }
def FnColumnsSaid : Prop := fnColumnsRow.holds Try.pinned (OpenSpec.ofChange fnColumnsSpec)

/-- ITS FALSE NEIGHBOUR: 'it returns false'. Refute it at one input. -/
def fnColumnsWrong : ChangeSpec := { name := "fnColumns", fn := fun _ => fun
  | [d1, d2] => { results := [.lit (.bool false)], args := [d1, d2] }
  | _ => none }
def FnColumnsWrongFalsely : Prop := fnColumnsRow.holds Try.pinned (OpenSpec.ofChange fnColumnsWrong)

/-- 'laws.FnRunKeeps': WHATEVER THE INPUT: true; the input reads as it did. -/
def fnRunKeepsSpec : ChangeSpec := { name := "fnRunKeeps", fn := fun _ => fun
  | [d1, d2] => { results := [.lit (.bool true)], args := [d1, d2] }
  | _ => none }
def fnRunKeepsRow : OpenClaim := { program := "ytadacjndepkfeaa", sum := "c234c907f98ad23f1aabd9da66013fc911e2b28695b11d1c22836acc087bb43b", func := "loop.example/lib-g01086/laws.FnRunKeeps", spec := "fnRunKeeps", unfollowed := true, recurses := true, apart := false }
def FnRunKeepsSaid : Prop := fnRunKeepsRow.holds Try.pinned (OpenSpec.ofChange fnRunKeepsSpec)

/-- ITS FALSE NEIGHBOUR: 'it returns false'. Refute it at one input. -/
def fnRunKeepsWrong : ChangeSpec := { name := "fnRunKeeps", fn := fun _ => fun
  | [d1, d2] => { results := [.lit (.bool false)], args := [d1, d2] }
  | _ => none }
def FnRunKeepsWrongFalsely : Prop := fnRunKeepsRow.holds Try.pinned (OpenSpec.ofChange fnRunKeepsWrong)

/-- 'laws.FnScriptContinued': WHATEVER THE INPUT: true; the input reads as it did. -/
def fnScriptContinuedSpec : ChangeSpec := { name := "fnScriptContinued", fn := fun _ => fun
  | [d1, d2] => { results := [.lit (.bool true)], args := [d1, d2] }
  | _ => none }
def fnScriptContinuedRow : OpenClaim := { program := "ytadacjndepkfeaa", sum := "c234c907f98ad23f1aabd9da66013fc911e2b28695b11d1c22836acc087bb43b", func := "loop.example/lib-g01086/laws.FnScriptContinued", spec := "fnScriptContinued", unfollowed := true, recurses := true, apart := false }
def FnScriptContinuedSaid : Prop := fnScriptContinuedRow.holds Try.pinned (OpenSpec.ofChange fnScriptContinuedSpec)

/-- ITS FALSE NEIGHBOUR: 'it returns false'. Refute it at one input. -/
def fnScriptContinuedWrong : ChangeSpec := { name := "fnScriptContinued", fn := fun _ => fun
  | [d1, d2] => { results := [.lit (.bool false)], args := [d1, d2] }
  | _ => none }
def FnScriptContinuedWrongFalsely : Prop := fnScriptContinuedRow.holds Try.pinned (OpenSpec.ofChange fnScriptContinuedWrong)

/-- 'laws.FnRanksAlone': WHATEVER THE INPUT: true; the input reads as it did. -/
def fnRanksAloneSpec : ChangeSpec := { name := "fnRanksAlone", fn := fun _ => fun
  | [d1, d2] => { results := [.lit (.bool true)], args := [d1, d2] }
  | _ => none }
def fnRanksAloneRow : OpenClaim := { program := "ytadacjndepkfeaa", sum := "c234c907f98ad23f1aabd9da66013fc911e2b28695b11d1c22836acc087bb43b", func := "loop.example/lib-g01086/laws.FnRanksAlone", spec := "fnRanksAlone", unfollowed := true, recurses := true, apart := false }
def FnRanksAloneSaid : Prop := fnRanksAloneRow.holds Try.pinned (OpenSpec.ofChange fnRanksAloneSpec)

/-- ITS FALSE NEIGHBOUR: 'it returns false'. Refute it at one input. -/
def fnRanksAloneWrong : ChangeSpec := { name := "fnRanksAlone", fn := fun _ => fun
  | [d1, d2] => { results := [.lit (.bool false)], args := [d1, d2] }
  | _ => none }
def FnRanksAloneWrongFalsely : Prop := fnRanksAloneRow.holds Try.pinned (OpenSpec.ofChange fnRanksAloneWrong)

/-- 'laws.FnScriptElements': WHATEVER THE INPUT: true; the input reads as it did. -/
def fnScriptElementsSpec : ChangeSpec := { name := "fnScriptElements", fn := fun _ => fun
  | [d1, d2] => { results := [.lit (.bool true)], args := [d1, d2] }
  | _ => none }
def fnScriptElementsRow : OpenClaim := { program := "ytadacjndepkfeaa", sum := "c234c907f98ad23f1aabd9da66013fc911e2b28695b11d1c22836acc087bb43b", func := "loop.example/lib-g01086/laws.FnScriptElements", spec := "fnScriptElements", unfollowed := true, recurses := true, apart := false }
def FnScriptElementsSaid : Prop := fnScriptElementsRow.holds Try.pinned (OpenSpec.ofChange fnScriptElementsSpec)

/-- ITS FALSE NEIGHBOUR: 'it returns false'. Refute it at one input. -/
def fnScriptElementsWrong : ChangeSpec := { name := "fnScriptElements", fn := fun _ => fun
  | [d1, d2] => { results := [.lit (.bool false)], args := [d1, d2] }
  | _ => none }
def FnScriptElementsWrongFalsely : Prop := fnScriptElementsRow.holds Try.pinned (OpenSpec.ofChange fnScriptElementsWrong)

/-- 'laws.FnScriptKept': WHATEVER THE INPUT: true; the input reads as it did. -/
def fnScriptKeptSpec : ChangeSpec := { name := "fnScriptKept", fn := fun _ => fun
  | [d1, d2] => { results := [.lit (.bool true)], args := [d1, d2] }
  | _ => none }
def fnScriptKeptRow : OpenClaim := { program := "ytadacjndepkfeaa", sum := "c234c907f98ad23f1aabd9da66013fc911e2b28695b11d1c22836acc087bb43b", func := "loop.example/lib-g01086/laws.FnScriptKept", spec := "fnScriptKept", unfollowed := true, recurses := true, apart := false }
def FnScriptKeptSaid : Prop := fnScriptKeptRow.holds Try.pinned (OpenSpec.ofChange fnScriptKeptSpec)

/-- ITS FALSE NEIGHBOUR: 'it returns false'. Refute it at one input. -/
def fnScriptKeptWrong : ChangeSpec := { name := "fnScriptKept", fn := fun _ => fun
  | [d1, d2] => { results := [.lit (.bool false)], args := [d1, d2] }
  | _ => none }
def FnScriptKeptWrongFalsely : Prop := fnScriptKeptRow.holds Try.pinned (OpenSpec.ofChange fnScriptKeptWrong)

/-- 'laws.FnScriptLeast': WHATEVER THE INPUT: true; the input reads as it did. -/
def fnScriptLeastSpec : ChangeSpec := { name := "fnScriptLeast", fn := fun _ => fun
  | [d1, d2] => { results := [.lit (.bool true)], args := [d1, d2] }
  | _ => none }
def fnScriptLeastRow : OpenClaim := { program := "ytadacjndepkfeaa", sum := "c234c907f98ad23f1aabd9da66013fc911e2b28695b11d1c22836acc087bb43b", func := "loop.example/lib-g01086/laws.FnScriptLeast", spec := "fnScriptLeast", unfollowed := true, recurses := true, apart := false }
def FnScriptLeastSaid : Prop := fnScriptLeastRow.holds Try.pinned (OpenSpec.ofChange fnScriptLeastSpec)

/-- ITS FALSE NEIGHBOUR: 'it returns false'. Refute it at one input. -/
def fnScriptLeastWrong : ChangeSpec := { name := "fnScriptLeast", fn := fun _ => fun
  | [d1, d2] => { results := [.lit (.bool false)], args := [d1, d2] }
  | _ => none }
def FnScriptLeastWrongFalsely : Prop := fnScriptLeastRow.holds Try.pinned (OpenSpec.ofChange fnScriptLeastWrong)

/-- 'laws.FnScriptOrder': WHATEVER THE INPUT: true; the input reads as it did. -/
def fnScriptOrderSpec : ChangeSpec := { name := "fnScriptOrder", fn := fun _ => fun
  | [d1, d2] => { results := [.lit (.bool true)], args := [d1, d2] }
  | _ => none }
def fnScriptOrderRow : OpenClaim := { program := "ytadacjndepkfeaa", sum := "c234c907f98ad23f1aabd9da66013fc911e2b28695b11d1c22836acc087bb43b", func := "loop.example/lib-g01086/laws.FnScriptOrder", spec := "fnScriptOrder", unfollowed := true, recurses := true, apart := false }
def FnScriptOrderSaid : Prop := fnScriptOrderRow.holds Try.pinned (OpenSpec.ofChange fnScriptOrderSpec)

/-- ITS FALSE NEIGHBOUR: 'it returns false'. Refute it at one input. -/
def fnScriptOrderWrong : ChangeSpec := { name := "fnScriptOrder", fn := fun _ => fun
  | [d1, d2] => { results := [.lit (.bool false)], args := [d1, d2] }
  | _ => none }
def FnScriptOrderWrongFalsely : Prop := fnScriptOrderRow.holds Try.pinned (OpenSpec.ofChange fnScriptOrderWrong)

/-- 'laws.FnScriptOut': WHATEVER THE INPUT: true; the input reads as it did. -/
def fnScriptOutSpec : ChangeSpec := { name := "fnScriptOut", fn := fun _ => fun
  | [d1, d2] => { results := [.lit (.bool true)], args := [d1, d2] }
  | _ => none }
def fnScriptOutRow : OpenClaim := { program := "ytadacjndepkfeaa", sum := "c234c907f98ad23f1aabd9da66013fc911e2b28695b11d1c22836acc087bb43b", func := "loop.example/lib-g01086/laws.FnScriptOut", spec := "fnScriptOut", unfollowed := true, recurses := true, apart := false }
def FnScriptOutSaid : Prop := fnScriptOutRow.holds Try.pinned (OpenSpec.ofChange fnScriptOutSpec)

/-- ITS FALSE NEIGHBOUR: 'it returns false'. Refute it at one input. -/
def fnScriptOutWrong : ChangeSpec := { name := "fnScriptOut", fn := fun _ => fun
  | [d1, d2] => { results := [.lit (.bool false)], args := [d1, d2] }
  | _ => none }
def FnScriptOutWrongFalsely : Prop := fnScriptOutRow.holds Try.pinned (OpenSpec.ofChange fnScriptOutWrong)

/-- 'laws.FnScriptSplit': WHATEVER THE INPUT: true; the input reads as it did. -/
def fnScriptSplitSpec : ChangeSpec := { name := "fnScriptSplit", fn := fun _ => fun
  | [d1, d2, d3] => { results := [.lit (.bool true)], args := [d1, d2, d3] }
  | _ => none }
def fnScriptSplitRow : OpenClaim := { program := "ytadacjndepkfeaa", sum := "c234c907f98ad23f1aabd9da66013fc911e2b28695b11d1c22836acc087bb43b", func := "loop.example/lib-g01086/laws.FnScriptSplit", spec := "fnScriptSplit", unfollowed := true, recurses := true, apart := false }
def FnScriptSplitSaid : Prop := fnScriptSplitRow.holds Try.pinned (OpenSpec.ofChange fnScriptSplitSpec)

/-- ITS FALSE NEIGHBOUR: 'it returns false'. Refute it at one input. -/
def fnScriptSplitWrong : ChangeSpec := { name := "fnScriptSplit", fn := fun _ => fun
  | [d1, d2, d3] => { results := [.lit (.bool false)], args := [d1, d2, d3] }
  | _ => none }
def FnScriptSplitWrongFalsely : Prop := fnScriptSplitRow.holds Try.pinned (OpenSpec.ofChange fnScriptSplitWrong)

/-- 'laws.FnTagsUnseen': WHATEVER THE INPUT: true; the input reads as it did. -/
def fnTagsUnseenSpec : ChangeSpec := { name := "fnTagsUnseen", fn := fun _ => fun
  | [d1, d2] => { results := [.lit (.bool true)], args := [d1, d2] }
  | _ => none }
def fnTagsUnseenRow : OpenClaim := { program := "ytadacjndepkfeaa", sum := "c234c907f98ad23f1aabd9da66013fc911e2b28695b11d1c22836acc087bb43b", func := "loop.example/lib-g01086/laws.FnTagsUnseen", spec := "fnTagsUnseen", unfollowed := true, recurses := true, apart := false }
def FnTagsUnseenSaid : Prop := fnTagsUnseenRow.holds Try.pinned (OpenSpec.ofChange fnTagsUnseenSpec)

/-- ITS FALSE NEIGHBOUR: 'it returns false'. Refute it at one input. -/
def fnTagsUnseenWrong : ChangeSpec := { name := "fnTagsUnseen", fn := fun _ => fun
  | [d1, d2] => { results := [.lit (.bool false)], args := [d1, d2] }
  | _ => none }
def FnTagsUnseenWrongFalsely : Prop := fnTagsUnseenRow.holds Try.pinned (OpenSpec.ofChange fnTagsUnseenWrong)

/- THE SECOND FORM. 'bulk': how many values and letters a reading holds, each counted each time it is reached (what is shared counts as often as it is met; a slice's spare places count too). A statement '..UptoSaid' is the law's where the arguments, and the package variables that the reading takes, are together of bulk at most 1048576: NARROWER than '..Said'. Prove '..Said' where nothing that the law and all that it calls make is longer than what came in: it says more and counts as full. Else prove '..UptoSaid'. A law counts once. -/
mutual
def uptoBulk {H : Type} : DataW H → Nat
  | .lit (.string bytes) => bytes.length + 1
  | .lit _ => 1
  | .nil => 1
  | .ptr d => uptoBulk d + 1
  | .slice elems spare => uptoBulkAll elems + uptoBulkAll spare + 1
  | .agg parts => uptoBulkAll parts + 1
  | .iface _ d => uptoBulk d + 1
  | .map entries => uptoBulkEntries entries + 1
  | .held _ => 1
def uptoBulkAll {H : Type} : List (DataW H) → Nat
  | [] => 0
  | d :: r => uptoBulk d + uptoBulkAll r
def uptoBulkEntries {H : Type} : List (Lit × DataW H) → Nat
  | [] => 0
  | x :: r => uptoBulkEntry x + uptoBulkEntries r
def uptoBulkEntry {H : Type} : Lit × DataW H → Nat
  | (.string bytes, d) => bytes.length + uptoBulk d + 1
  | (_, d) => uptoBulk d + 1
 end
def uptoSmall : (H : Type) → List (DataW H) → Bool := fun _ ds => decide (uptoBulkAll ds ≤ 1048576)
def OpenSpec.upto (s : _root_.Go.ChangeSpec) : _root_.Go.OpenSpec := { _root_.Go.OpenSpec.ofChange s with cond := some uptoSmall }

/-- 'laws.FnScriptSteps', WHERE WHAT IT READS IS OF BULK AT MOST 1048576: true; the input reads as it did. -/
def fnScriptStepsUptoRow : OpenClaim := { program := "ytadacjndepkfeaa", sum := "c234c907f98ad23f1aabd9da66013fc911e2b28695b11d1c22836acc087bb43b", func := "loop.example/lib-g01086/laws.FnScriptSteps", spec := "fnScriptSteps", unfollowed := true, recurses := true, apart := false, narrowed := true }
def FnScriptStepsUptoSaid : Prop := fnScriptStepsUptoRow.holds Try.pinned (OpenSpec.upto fnScriptStepsSpec)

/-- 'laws.FnColumns', WHERE WHAT IT READS IS OF BULK AT MOST 1048576: true; the input reads as it did. -/
def fnColumnsUptoRow : OpenClaim := { program := "ytadacjndepkfeaa", sum := "c234c907f98ad23f1aabd9da66013fc911e2b28695b11d1c22836acc087bb43b", func := "loop.example/lib-g01086/laws.FnColumns", spec := "fnColumns", unfollowed := true, recurses := true, apart := false, narrowed := true }
def FnColumnsUptoSaid : Prop := fnColumnsUptoRow.holds Try.pinned (OpenSpec.upto fnColumnsSpec)

/-- 'laws.FnRunKeeps', WHERE WHAT IT READS IS OF BULK AT MOST 1048576: true; the input reads as it did. -/
def fnRunKeepsUptoRow : OpenClaim := { program := "ytadacjndepkfeaa", sum := "c234c907f98ad23f1aabd9da66013fc911e2b28695b11d1c22836acc087bb43b", func := "loop.example/lib-g01086/laws.FnRunKeeps", spec := "fnRunKeeps", unfollowed := true, recurses := true, apart := false, narrowed := true }
def FnRunKeepsUptoSaid : Prop := fnRunKeepsUptoRow.holds Try.pinned (OpenSpec.upto fnRunKeepsSpec)

/-- 'laws.FnScriptContinued', WHERE WHAT IT READS IS OF BULK AT MOST 1048576: true; the input reads as it did. -/
def fnScriptContinuedUptoRow : OpenClaim := { program := "ytadacjndepkfeaa", sum := "c234c907f98ad23f1aabd9da66013fc911e2b28695b11d1c22836acc087bb43b", func := "loop.example/lib-g01086/laws.FnScriptContinued", spec := "fnScriptContinued", unfollowed := true, recurses := true, apart := false, narrowed := true }
def FnScriptContinuedUptoSaid : Prop := fnScriptContinuedUptoRow.holds Try.pinned (OpenSpec.upto fnScriptContinuedSpec)

/-- 'laws.FnRanksAlone', WHERE WHAT IT READS IS OF BULK AT MOST 1048576: true; the input reads as it did. -/
def fnRanksAloneUptoRow : OpenClaim := { program := "ytadacjndepkfeaa", sum := "c234c907f98ad23f1aabd9da66013fc911e2b28695b11d1c22836acc087bb43b", func := "loop.example/lib-g01086/laws.FnRanksAlone", spec := "fnRanksAlone", unfollowed := true, recurses := true, apart := false, narrowed := true }
def FnRanksAloneUptoSaid : Prop := fnRanksAloneUptoRow.holds Try.pinned (OpenSpec.upto fnRanksAloneSpec)

/-- 'laws.FnScriptElements', WHERE WHAT IT READS IS OF BULK AT MOST 1048576: true; the input reads as it did. -/
def fnScriptElementsUptoRow : OpenClaim := { program := "ytadacjndepkfeaa", sum := "c234c907f98ad23f1aabd9da66013fc911e2b28695b11d1c22836acc087bb43b", func := "loop.example/lib-g01086/laws.FnScriptElements", spec := "fnScriptElements", unfollowed := true, recurses := true, apart := false, narrowed := true }
def FnScriptElementsUptoSaid : Prop := fnScriptElementsUptoRow.holds Try.pinned (OpenSpec.upto fnScriptElementsSpec)

/-- 'laws.FnScriptKept', WHERE WHAT IT READS IS OF BULK AT MOST 1048576: true; the input reads as it did. -/
def fnScriptKeptUptoRow : OpenClaim := { program := "ytadacjndepkfeaa", sum := "c234c907f98ad23f1aabd9da66013fc911e2b28695b11d1c22836acc087bb43b", func := "loop.example/lib-g01086/laws.FnScriptKept", spec := "fnScriptKept", unfollowed := true, recurses := true, apart := false, narrowed := true }
def FnScriptKeptUptoSaid : Prop := fnScriptKeptUptoRow.holds Try.pinned (OpenSpec.upto fnScriptKeptSpec)

/-- 'laws.FnScriptLeast', WHERE WHAT IT READS IS OF BULK AT MOST 1048576: true; the input reads as it did. -/
def fnScriptLeastUptoRow : OpenClaim := { program := "ytadacjndepkfeaa", sum := "c234c907f98ad23f1aabd9da66013fc911e2b28695b11d1c22836acc087bb43b", func := "loop.example/lib-g01086/laws.FnScriptLeast", spec := "fnScriptLeast", unfollowed := true, recurses := true, apart := false, narrowed := true }
def FnScriptLeastUptoSaid : Prop := fnScriptLeastUptoRow.holds Try.pinned (OpenSpec.upto fnScriptLeastSpec)

/-- 'laws.FnScriptOrder', WHERE WHAT IT READS IS OF BULK AT MOST 1048576: true; the input reads as it did. -/
def fnScriptOrderUptoRow : OpenClaim := { program := "ytadacjndepkfeaa", sum := "c234c907f98ad23f1aabd9da66013fc911e2b28695b11d1c22836acc087bb43b", func := "loop.example/lib-g01086/laws.FnScriptOrder", spec := "fnScriptOrder", unfollowed := true, recurses := true, apart := false, narrowed := true }
def FnScriptOrderUptoSaid : Prop := fnScriptOrderUptoRow.holds Try.pinned (OpenSpec.upto fnScriptOrderSpec)

/-- 'laws.FnScriptOut', WHERE WHAT IT READS IS OF BULK AT MOST 1048576: true; the input reads as it did. -/
def fnScriptOutUptoRow : OpenClaim := { program := "ytadacjndepkfeaa", sum := "c234c907f98ad23f1aabd9da66013fc911e2b28695b11d1c22836acc087bb43b", func := "loop.example/lib-g01086/laws.FnScriptOut", spec := "fnScriptOut", unfollowed := true, recurses := true, apart := false, narrowed := true }
def FnScriptOutUptoSaid : Prop := fnScriptOutUptoRow.holds Try.pinned (OpenSpec.upto fnScriptOutSpec)

/-- 'laws.FnScriptSplit', WHERE WHAT IT READS IS OF BULK AT MOST 1048576: true; the input reads as it did. -/
def fnScriptSplitUptoRow : OpenClaim := { program := "ytadacjndepkfeaa", sum := "c234c907f98ad23f1aabd9da66013fc911e2b28695b11d1c22836acc087bb43b", func := "loop.example/lib-g01086/laws.FnScriptSplit", spec := "fnScriptSplit", unfollowed := true, recurses := true, apart := false, narrowed := true }
def FnScriptSplitUptoSaid : Prop := fnScriptSplitUptoRow.holds Try.pinned (OpenSpec.upto fnScriptSplitSpec)

/-- 'laws.FnTagsUnseen', WHERE WHAT IT READS IS OF BULK AT MOST 1048576: true; the input reads as it did. -/
def fnTagsUnseenUptoRow : OpenClaim := { program := "ytadacjndepkfeaa", sum := "c234c907f98ad23f1aabd9da66013fc911e2b28695b11d1c22836acc087bb43b", func := "loop.example/lib-g01086/laws.FnTagsUnseen", spec := "fnTagsUnseen", unfollowed := true, recurses := true, apart := false, narrowed := true }
def FnTagsUnseenUptoSaid : Prop := fnTagsUnseenUptoRow.holds Try.pinned (OpenSpec.upto fnTagsUnseenSpec)

end Rows
end Go.Proofs.Ytadacjndepkfeaa
