/-
  No cell of these rows narrows 'for every input' (looked for: loops, veiled, ifaces, maps, wideKeys, modest, calm, conditions, laid).
  DERIVED. THE GIVEN ROWS OF THIS SEAT. 4 by the template 'for every input the law returns true; each argument reads behind the call as it read before'; 0 by the template 'total and deterministic' (their statements: Qxb6600216aTotals.lean).
  GIVEN WITH THE SEED: the statements are not yours to turn. If you find one false, say at which input.
  Laid BY PROGRAM, IN A SANDBOX (cutbox-rows.mjs): the forced cells as the released guide's own fill.sh prints them over the translation 645b3bb89cb7d994… (all of the seat's roots in one cut). By AI agents, Wed Nov 11 2026. No macro, syntax, notation, axiom, sorry.
-/
import Derived.Test.Qxb6600216aChecked
import GoSem.Claim
import GoSem.ClaimJoined
import GoSem.ClaimMapViews
import Derived.JoinedTies
import Derived.KernelRfl
namespace Go.Proofs.Qxb6600216a
/- THE CELL 'sum', in the pinned program and in every row, IS THE sha256 OF THE DUMP (.gsa) THAT Qxb6600216aProg.lean LOADS. Nothing in Lean hashes anything: it is a label: what it is worth is what the hold of that sum in a sandbox is worth. -/
noncomputable def Try.pinned : Pinned := { name := "qxb6600216a", sum := "645b3bb89cb7d994c2e80fc5a9afae5924f0303e01ded5aae0080f38a3a51257", checked := Try.checked }
namespace Rows
def none {H : Type} : Left H := { results := [], args := [] }

/-- 'zzlaws_root_b1.FnRadixSortIsStableSortByWordThenLeft': WHATEVER THE INPUT: true; the input reads as it did. -/
def fnRadixSortIsStableSortByWordThenLeftSpec : ChangeSpec := { name := "fnRadixSortIsStableSortByWordThenLeft", fn := fun _ => fun
  | [d1, d2, d3, d4, d5, d6] => { results := [.lit (.bool true)], args := [d1, d2, d3, d4, d5, d6] }
  | _ => none }
def fnRadixSortIsStableSortByWordThenLeftRow : OpenClaim := { program := "qxb6600216a", sum := "645b3bb89cb7d994c2e80fc5a9afae5924f0303e01ded5aae0080f38a3a51257", func := "example.com/argentum/argentum/zzlaws_root_b1.FnRadixSortIsStableSortByWordThenLeft", spec := "fnRadixSortIsStableSortByWordThenLeft", apart := false }
def FnRadixSortIsStableSortByWordThenLeftSaid : Prop := fnRadixSortIsStableSortByWordThenLeftRow.holds Try.pinned (OpenSpec.ofChange fnRadixSortIsStableSortByWordThenLeftSpec)

/-- ITS FALSE NEIGHBOUR: 'it returns false'. Refute it at one input. -/
def fnRadixSortIsStableSortByWordThenLeftWrong : ChangeSpec := { name := "fnRadixSortIsStableSortByWordThenLeft", fn := fun _ => fun
  | [d1, d2, d3, d4, d5, d6] => { results := [.lit (.bool false)], args := [d1, d2, d3, d4, d5, d6] }
  | _ => none }
def FnRadixSortIsStableSortByWordThenLeftWrongFalsely : Prop := fnRadixSortIsStableSortByWordThenLeftRow.holds Try.pinned (OpenSpec.ofChange fnRadixSortIsStableSortByWordThenLeftWrong)

/-- 'zzlaws_root_b1.FnBatchEndIsLastAccountBoundaryWithin64Records': WHATEVER THE INPUT: true; the input reads as it did. -/
def fnBatchEndIsLastAccountBoundaryWithin64RecordsSpec : ChangeSpec := { name := "fnBatchEndIsLastAccountBoundaryWithin64Records", fn := fun _ => fun
  | [d1, d2, d3] => { results := [.lit (.bool true)], args := [d1, d2, d3] }
  | _ => none }
def fnBatchEndIsLastAccountBoundaryWithin64RecordsRow : OpenClaim := { program := "qxb6600216a", sum := "645b3bb89cb7d994c2e80fc5a9afae5924f0303e01ded5aae0080f38a3a51257", func := "example.com/argentum/argentum/zzlaws_root_b1.FnBatchEndIsLastAccountBoundaryWithin64Records", spec := "fnBatchEndIsLastAccountBoundaryWithin64Records", apart := false }
def FnBatchEndIsLastAccountBoundaryWithin64RecordsSaid : Prop := fnBatchEndIsLastAccountBoundaryWithin64RecordsRow.holds Try.pinned (OpenSpec.ofChange fnBatchEndIsLastAccountBoundaryWithin64RecordsSpec)

/-- ITS FALSE NEIGHBOUR: 'it returns false'. Refute it at one input. -/
def fnBatchEndIsLastAccountBoundaryWithin64RecordsWrong : ChangeSpec := { name := "fnBatchEndIsLastAccountBoundaryWithin64Records", fn := fun _ => fun
  | [d1, d2, d3] => { results := [.lit (.bool false)], args := [d1, d2, d3] }
  | _ => none }
def FnBatchEndIsLastAccountBoundaryWithin64RecordsWrongFalsely : Prop := fnBatchEndIsLastAccountBoundaryWithin64RecordsRow.holds Try.pinned (OpenSpec.ofChange fnBatchEndIsLastAccountBoundaryWithin64RecordsWrong)

/-- 'zzlaws_root_b1.FnBatchEndBatchesCoverRunsAtAccountBoundaries': WHATEVER THE INPUT: true; the input reads as it did. -/
def fnBatchEndBatchesCoverRunsAtAccountBoundariesSpec : ChangeSpec := { name := "fnBatchEndBatchesCoverRunsAtAccountBoundaries", fn := fun _ => fun
  | [d1, d2, d3] => { results := [.lit (.bool true)], args := [d1, d2, d3] }
  | _ => none }
def fnBatchEndBatchesCoverRunsAtAccountBoundariesRow : OpenClaim := { program := "qxb6600216a", sum := "645b3bb89cb7d994c2e80fc5a9afae5924f0303e01ded5aae0080f38a3a51257", func := "example.com/argentum/argentum/zzlaws_root_b1.FnBatchEndBatchesCoverRunsAtAccountBoundaries", spec := "fnBatchEndBatchesCoverRunsAtAccountBoundaries", apart := false }
def FnBatchEndBatchesCoverRunsAtAccountBoundariesSaid : Prop := fnBatchEndBatchesCoverRunsAtAccountBoundariesRow.holds Try.pinned (OpenSpec.ofChange fnBatchEndBatchesCoverRunsAtAccountBoundariesSpec)

/-- ITS FALSE NEIGHBOUR: 'it returns false'. Refute it at one input. -/
def fnBatchEndBatchesCoverRunsAtAccountBoundariesWrong : ChangeSpec := { name := "fnBatchEndBatchesCoverRunsAtAccountBoundaries", fn := fun _ => fun
  | [d1, d2, d3] => { results := [.lit (.bool false)], args := [d1, d2, d3] }
  | _ => none }
def FnBatchEndBatchesCoverRunsAtAccountBoundariesWrongFalsely : Prop := fnBatchEndBatchesCoverRunsAtAccountBoundariesRow.holds Try.pinned (OpenSpec.ofChange fnBatchEndBatchesCoverRunsAtAccountBoundariesWrong)

/-- 'zzlaws_root_b1.FnStepSumAddKeepsFenSumAsCheckedAddWould': WHATEVER THE INPUT: true; the input reads as it did. -/
def fnStepSumAddKeepsFenSumAsCheckedAddWouldSpec : ChangeSpec := { name := "fnStepSumAddKeepsFenSumAsCheckedAddWould", fn := fun _ => fun
  | [d1, d2, d3, d4, d5] => { results := [.lit (.bool true)], args := [d1, d2, d3, d4, d5] }
  | _ => none }
def fnStepSumAddKeepsFenSumAsCheckedAddWouldRow : OpenClaim := { program := "qxb6600216a", sum := "645b3bb89cb7d994c2e80fc5a9afae5924f0303e01ded5aae0080f38a3a51257", func := "example.com/argentum/argentum/zzlaws_root_b1.FnStepSumAddKeepsFenSumAsCheckedAddWould", spec := "fnStepSumAddKeepsFenSumAsCheckedAddWould", apart := false }
def FnStepSumAddKeepsFenSumAsCheckedAddWouldSaid : Prop := fnStepSumAddKeepsFenSumAsCheckedAddWouldRow.holds Try.pinned (OpenSpec.ofChange fnStepSumAddKeepsFenSumAsCheckedAddWouldSpec)

/-- ITS FALSE NEIGHBOUR: 'it returns false'. Refute it at one input. -/
def fnStepSumAddKeepsFenSumAsCheckedAddWouldWrong : ChangeSpec := { name := "fnStepSumAddKeepsFenSumAsCheckedAddWould", fn := fun _ => fun
  | [d1, d2, d3, d4, d5] => { results := [.lit (.bool false)], args := [d1, d2, d3, d4, d5] }
  | _ => none }
def FnStepSumAddKeepsFenSumAsCheckedAddWouldWrongFalsely : Prop := fnStepSumAddKeepsFenSumAsCheckedAddWouldRow.holds Try.pinned (OpenSpec.ofChange fnStepSumAddKeepsFenSumAsCheckedAddWouldWrong)

end Rows
end Go.Proofs.Qxb6600216a
