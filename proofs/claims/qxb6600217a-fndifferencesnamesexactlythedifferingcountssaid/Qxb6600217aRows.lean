/-
  No cell of these rows narrows 'for every input' (looked for: loops, veiled, ifaces, maps, wideKeys, modest, calm, conditions, laid).
  DERIVED. THE GIVEN ROWS OF THIS SEAT. 4 by the template 'for every input the law returns true; each argument reads behind the call as it read before'; 0 by the template 'total and deterministic' (their statements: Qxb6600217aTotals.lean).
  GIVEN WITH THE SEED: the statements are not yours to turn. If you find one false, say at which input.
  Laid BY PROGRAM, IN A SANDBOX (cutbox-rows.mjs): the forced cells as the released guide's own fill.sh prints them over the translation 8c327e03c5a2b0c2… (all of the seat's roots in one cut). By AI agents, Wed Nov 11 2026. No macro, syntax, notation, axiom, sorry.
-/
import Derived.Test.Qxb6600217aChecked
import GoSem.Claim
import GoSem.ClaimJoined
import GoSem.ClaimMapViews
import Derived.JoinedTies
import Derived.KernelRfl
namespace Go.Proofs.Qxb6600217a
/- THE CELL 'sum', in the pinned program and in every row, IS THE sha256 OF THE DUMP (.gsa) THAT Qxb6600217aProg.lean LOADS. Nothing in Lean hashes anything: it is a label: what it is worth is what the hold of that sum in a sandbox is worth. -/
noncomputable def Try.pinned : Pinned := { name := "qxb6600217a", sum := "8c327e03c5a2b0c2a957fb4d67ef4bd704e7670c84ec4197d8c3bb2c137cce6b", checked := Try.checked }
namespace Rows
def none {H : Type} : Left H := { results := [], args := [] }

/-- 'zzlaws_pkg_bill_b1.FnRowFieldsFillEveryFieldOnce': WHATEVER THE INPUT: true; the input reads as it did. -/
def fnRowFieldsFillEveryFieldOnceSpec : ChangeSpec := { name := "fnRowFieldsFillEveryFieldOnce", fn := fun _ => fun
  | [d1, d2] => { results := [.lit (.bool true)], args := [d1, d2] }
  | _ => none }
def fnRowFieldsFillEveryFieldOnceRow : OpenClaim := { program := "qxb6600217a", sum := "8c327e03c5a2b0c2a957fb4d67ef4bd704e7670c84ec4197d8c3bb2c137cce6b", func := "example.com/payrec/payrec/zzlaws_pkg_bill_b1.FnRowFieldsFillEveryFieldOnce", spec := "fnRowFieldsFillEveryFieldOnce", apart := false }
def FnRowFieldsFillEveryFieldOnceSaid : Prop := fnRowFieldsFillEveryFieldOnceRow.holds Try.pinned (OpenSpec.ofChange fnRowFieldsFillEveryFieldOnceSpec)

/-- ITS FALSE NEIGHBOUR: 'it returns false'. Refute it at one input. -/
def fnRowFieldsFillEveryFieldOnceWrong : ChangeSpec := { name := "fnRowFieldsFillEveryFieldOnce", fn := fun _ => fun
  | [d1, d2] => { results := [.lit (.bool false)], args := [d1, d2] }
  | _ => none }
def FnRowFieldsFillEveryFieldOnceWrongFalsely : Prop := fnRowFieldsFillEveryFieldOnceRow.holds Try.pinned (OpenSpec.ofChange fnRowFieldsFillEveryFieldOnceWrong)

/-- 'zzlaws_pkg_bill_b1.FnAmountColumnsFillEveryAmountOnce': WHATEVER THE INPUT: true; the input reads as it did. -/
def fnAmountColumnsFillEveryAmountOnceSpec : ChangeSpec := { name := "fnAmountColumnsFillEveryAmountOnce", fn := fun _ => fun
  | [d] => { results := [.lit (.bool true)], args := [d] }
  | _ => none }
def fnAmountColumnsFillEveryAmountOnceRow : OpenClaim := { program := "qxb6600217a", sum := "8c327e03c5a2b0c2a957fb4d67ef4bd704e7670c84ec4197d8c3bb2c137cce6b", func := "example.com/payrec/payrec/zzlaws_pkg_bill_b1.FnAmountColumnsFillEveryAmountOnce", spec := "fnAmountColumnsFillEveryAmountOnce", apart := false }
def FnAmountColumnsFillEveryAmountOnceSaid : Prop := fnAmountColumnsFillEveryAmountOnceRow.holds Try.pinned (OpenSpec.ofChange fnAmountColumnsFillEveryAmountOnceSpec)

/-- ITS FALSE NEIGHBOUR: 'it returns false'. Refute it at one input. -/
def fnAmountColumnsFillEveryAmountOnceWrong : ChangeSpec := { name := "fnAmountColumnsFillEveryAmountOnce", fn := fun _ => fun
  | [d] => { results := [.lit (.bool false)], args := [d] }
  | _ => none }
def FnAmountColumnsFillEveryAmountOnceWrongFalsely : Prop := fnAmountColumnsFillEveryAmountOnceRow.holds Try.pinned (OpenSpec.ofChange fnAmountColumnsFillEveryAmountOnceWrong)

/-- 'zzlaws_pkg_bill_b1.FnDifferencesNamesExactlyTheDifferingCounts': WHATEVER THE INPUT: true; the input reads as it did. -/
def fnDifferencesNamesExactlyTheDifferingCountsSpec : ChangeSpec := { name := "fnDifferencesNamesExactlyTheDifferingCounts", fn := fun _ => fun
  | [d1, d2] => { results := [.lit (.bool true)], args := [d1, d2] }
  | _ => none }
def fnDifferencesNamesExactlyTheDifferingCountsRow : OpenClaim := { program := "qxb6600217a", sum := "8c327e03c5a2b0c2a957fb4d67ef4bd704e7670c84ec4197d8c3bb2c137cce6b", func := "example.com/payrec/payrec/zzlaws_pkg_bill_b1.FnDifferencesNamesExactlyTheDifferingCounts", spec := "fnDifferencesNamesExactlyTheDifferingCounts", apart := false }
def FnDifferencesNamesExactlyTheDifferingCountsSaid : Prop := fnDifferencesNamesExactlyTheDifferingCountsRow.holds Try.pinned (OpenSpec.ofChange fnDifferencesNamesExactlyTheDifferingCountsSpec)

/-- ITS FALSE NEIGHBOUR: 'it returns false'. Refute it at one input. -/
def fnDifferencesNamesExactlyTheDifferingCountsWrong : ChangeSpec := { name := "fnDifferencesNamesExactlyTheDifferingCounts", fn := fun _ => fun
  | [d1, d2] => { results := [.lit (.bool false)], args := [d1, d2] }
  | _ => none }
def FnDifferencesNamesExactlyTheDifferingCountsWrongFalsely : Prop := fnDifferencesNamesExactlyTheDifferingCountsRow.holds Try.pinned (OpenSpec.ofChange fnDifferencesNamesExactlyTheDifferingCountsWrong)

/-- 'zzlaws_pkg_bill_b1.FnDifferencesSymmetricAndEmptyExactlyOnEqual': WHATEVER THE INPUT: true; the input reads as it did. -/
def fnDifferencesSymmetricAndEmptyExactlyOnEqualSpec : ChangeSpec := { name := "fnDifferencesSymmetricAndEmptyExactlyOnEqual", fn := fun _ => fun
  | [d1, d2] => { results := [.lit (.bool true)], args := [d1, d2] }
  | _ => none }
def fnDifferencesSymmetricAndEmptyExactlyOnEqualRow : OpenClaim := { program := "qxb6600217a", sum := "8c327e03c5a2b0c2a957fb4d67ef4bd704e7670c84ec4197d8c3bb2c137cce6b", func := "example.com/payrec/payrec/zzlaws_pkg_bill_b1.FnDifferencesSymmetricAndEmptyExactlyOnEqual", spec := "fnDifferencesSymmetricAndEmptyExactlyOnEqual", apart := false }
def FnDifferencesSymmetricAndEmptyExactlyOnEqualSaid : Prop := fnDifferencesSymmetricAndEmptyExactlyOnEqualRow.holds Try.pinned (OpenSpec.ofChange fnDifferencesSymmetricAndEmptyExactlyOnEqualSpec)

/-- ITS FALSE NEIGHBOUR: 'it returns false'. Refute it at one input. -/
def fnDifferencesSymmetricAndEmptyExactlyOnEqualWrong : ChangeSpec := { name := "fnDifferencesSymmetricAndEmptyExactlyOnEqual", fn := fun _ => fun
  | [d1, d2] => { results := [.lit (.bool false)], args := [d1, d2] }
  | _ => none }
def FnDifferencesSymmetricAndEmptyExactlyOnEqualWrongFalsely : Prop := fnDifferencesSymmetricAndEmptyExactlyOnEqualRow.holds Try.pinned (OpenSpec.ofChange fnDifferencesSymmetricAndEmptyExactlyOnEqualWrong)

end Rows
end Go.Proofs.Qxb6600217a
