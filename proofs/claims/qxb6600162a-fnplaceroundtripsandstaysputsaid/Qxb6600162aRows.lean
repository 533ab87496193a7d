/-
  No cell of these rows narrows 'for every input' (looked for: loops, veiled, ifaces, maps, wideKeys, modest, calm, conditions, laid).
  DERIVED. THE GIVEN ROWS OF THIS SEAT. 3 by the template 'for every input the law returns true; each argument reads behind the call as it read before'; 0 by the template 'total and deterministic' (their statements: Qxb6600162aTotals.lean).
  GIVEN WITH THE SEED: the statements are not yours to turn. If you find one false, say at which input.
  Laid BY PROGRAM, IN A SANDBOX (cutbox-rows.mjs): the forced cells as the released guide's own fill.sh prints them over the translation 98f30671ff28a6ef… (all of the seat's roots in one cut). By AI agents, Wed Nov 11 2026. No macro, syntax, notation, axiom, sorry.
-/
import Derived.Test.Qxb6600162aChecked
import GoSem.Claim
import GoSem.ClaimJoined
import GoSem.ClaimMapViews
import Derived.JoinedTies
import Derived.KernelRfl
namespace Go.Proofs.Qxb6600162a
/- THE CELL 'sum', in the pinned program and in every row, IS THE sha256 OF THE DUMP (.gsa) THAT Qxb6600162aProg.lean LOADS. Nothing in Lean hashes anything: it is a label: what it is worth is what the hold of that sum in a sandbox is worth. -/
noncomputable def Try.pinned : Pinned := { name := "qxb6600162a", sum := "98f30671ff28a6efe3730f97b808d4e72b70269bc3bfc83f654befb00b089770", checked := Try.checked }
namespace Rows
def none {H : Type} : Left H := { results := [], args := [] }

/-- 'zzlaws_internal_workbook_b1.FnPlaceIsFirstAppearanceRank': WHATEVER THE INPUT: true; the input reads as it did. -/
def fnPlaceIsFirstAppearanceRankSpec : ChangeSpec := { name := "fnPlaceIsFirstAppearanceRank", fn := fun _ => fun
  | [d] => { results := [.lit (.bool true)], args := [d] }
  | _ => none }
def fnPlaceIsFirstAppearanceRankRow : OpenClaim := { program := "qxb6600162a", sum := "98f30671ff28a6efe3730f97b808d4e72b70269bc3bfc83f654befb00b089770", func := "example.com/vestledger/vestledger/zzlaws_internal_workbook_b1.FnPlaceIsFirstAppearanceRank", spec := "fnPlaceIsFirstAppearanceRank", apart := false }
def FnPlaceIsFirstAppearanceRankSaid : Prop := fnPlaceIsFirstAppearanceRankRow.holds Try.pinned (OpenSpec.ofChange fnPlaceIsFirstAppearanceRankSpec)

/-- ITS FALSE NEIGHBOUR: 'it returns false'. Refute it at one input. -/
def fnPlaceIsFirstAppearanceRankWrong : ChangeSpec := { name := "fnPlaceIsFirstAppearanceRank", fn := fun _ => fun
  | [d] => { results := [.lit (.bool false)], args := [d] }
  | _ => none }
def FnPlaceIsFirstAppearanceRankWrongFalsely : Prop := fnPlaceIsFirstAppearanceRankRow.holds Try.pinned (OpenSpec.ofChange fnPlaceIsFirstAppearanceRankWrong)

/-- 'zzlaws_internal_workbook_b1.FnPlaceRoundTripsAndStaysPut': WHATEVER THE INPUT: true; the input reads as it did. -/
def fnPlaceRoundTripsAndStaysPutSpec : ChangeSpec := { name := "fnPlaceRoundTripsAndStaysPut", fn := fun _ => fun
  | [d] => { results := [.lit (.bool true)], args := [d] }
  | _ => none }
def fnPlaceRoundTripsAndStaysPutRow : OpenClaim := { program := "qxb6600162a", sum := "98f30671ff28a6efe3730f97b808d4e72b70269bc3bfc83f654befb00b089770", func := "example.com/vestledger/vestledger/zzlaws_internal_workbook_b1.FnPlaceRoundTripsAndStaysPut", spec := "fnPlaceRoundTripsAndStaysPut", apart := false }
def FnPlaceRoundTripsAndStaysPutSaid : Prop := fnPlaceRoundTripsAndStaysPutRow.holds Try.pinned (OpenSpec.ofChange fnPlaceRoundTripsAndStaysPutSpec)

/-- ITS FALSE NEIGHBOUR: 'it returns false'. Refute it at one input. -/
def fnPlaceRoundTripsAndStaysPutWrong : ChangeSpec := { name := "fnPlaceRoundTripsAndStaysPut", fn := fun _ => fun
  | [d] => { results := [.lit (.bool false)], args := [d] }
  | _ => none }
def FnPlaceRoundTripsAndStaysPutWrongFalsely : Prop := fnPlaceRoundTripsAndStaysPutRow.holds Try.pinned (OpenSpec.ofChange fnPlaceRoundTripsAndStaysPutWrong)

/-- 'zzlaws_internal_workbook_b1.FnPlaceReplayOfListIsIdentity': WHATEVER THE INPUT: true; the input reads as it did. -/
def fnPlaceReplayOfListIsIdentitySpec : ChangeSpec := { name := "fnPlaceReplayOfListIsIdentity", fn := fun _ => fun
  | [d] => { results := [.lit (.bool true)], args := [d] }
  | _ => none }
def fnPlaceReplayOfListIsIdentityRow : OpenClaim := { program := "qxb6600162a", sum := "98f30671ff28a6efe3730f97b808d4e72b70269bc3bfc83f654befb00b089770", func := "example.com/vestledger/vestledger/zzlaws_internal_workbook_b1.FnPlaceReplayOfListIsIdentity", spec := "fnPlaceReplayOfListIsIdentity", apart := false }
def FnPlaceReplayOfListIsIdentitySaid : Prop := fnPlaceReplayOfListIsIdentityRow.holds Try.pinned (OpenSpec.ofChange fnPlaceReplayOfListIsIdentitySpec)

/-- ITS FALSE NEIGHBOUR: 'it returns false'. Refute it at one input. -/
def fnPlaceReplayOfListIsIdentityWrong : ChangeSpec := { name := "fnPlaceReplayOfListIsIdentity", fn := fun _ => fun
  | [d] => { results := [.lit (.bool false)], args := [d] }
  | _ => none }
def FnPlaceReplayOfListIsIdentityWrongFalsely : Prop := fnPlaceReplayOfListIsIdentityRow.holds Try.pinned (OpenSpec.ofChange fnPlaceReplayOfListIsIdentityWrong)

end Rows
end Go.Proofs.Qxb6600162a
