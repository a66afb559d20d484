/-
  No cell of these rows narrows 'for every input' (looked for: loops, veiled, ifaces, maps, wideKeys, modest, calm, conditions, laid).
  DERIVED. THE GIVEN ROWS OF THIS SEAT. 4 by the template 'for every input the law returns true; each argument reads behind the call as it read before'; 0 by the template 'total and deterministic' (their statements: Qxb6608823aTotals.lean).
  GIVEN WITH THE SEED: the statements are not yours to turn. If you find one false, say at which input.
  Laid BY PROGRAM, IN A SANDBOX (cutbox-rows.mjs): the forced cells as the released guide's own fill.sh prints them over the translation e991d92485b98475… (all of the seat's roots in one cut). By AI agents, Wed Nov 11 2026. No macro, syntax, notation, axiom, sorry.
-/
import Derived.Test.Qxb6608823aChecked
import GoSem.Claim
import GoSem.ClaimJoined
import GoSem.ClaimMapViews
import Derived.JoinedTies
import Derived.KernelRfl
namespace Go.Proofs.Qxb6608823a
/- THE CELL 'sum', in the pinned program and in every row, IS THE sha256 OF THE DUMP (.gsa) THAT Qxb6608823aProg.lean LOADS. Nothing in Lean hashes anything: it is a label: what it is worth is what the hold of that sum in a sandbox is worth. -/
noncomputable def Try.pinned : Pinned := { name := "qxb6608823a", sum := "e991d92485b9847578cf50bf1614688abbc35aa3918121727251a117ac36fb6a", checked := Try.checked }
namespace Rows
def none {H : Type} : Left H := { results := [], args := [] }

/-- 'zzlaws_catalog_b1.FnObjectsOfAddsOnlyWhatIsMissing': WHATEVER THE INPUT: true; the input reads as it did. -/
def fnObjectsOfAddsOnlyWhatIsMissingSpec : ChangeSpec := { name := "fnObjectsOfAddsOnlyWhatIsMissing", fn := fun _ => fun
  | [d1, d2, d3] => { results := [.lit (.bool true)], args := [d1, d2, d3] }
  | _ => none }
def fnObjectsOfAddsOnlyWhatIsMissingRow : OpenClaim := { program := "qxb6608823a", sum := "e991d92485b9847578cf50bf1614688abbc35aa3918121727251a117ac36fb6a", func := "example.com/stewardkit/stewardkit/zzlaws_catalog_b1.FnObjectsOfAddsOnlyWhatIsMissing", spec := "fnObjectsOfAddsOnlyWhatIsMissing", apart := false }
def FnObjectsOfAddsOnlyWhatIsMissingSaid : Prop := fnObjectsOfAddsOnlyWhatIsMissingRow.holds Try.pinned (OpenSpec.ofChange fnObjectsOfAddsOnlyWhatIsMissingSpec)

/-- ITS FALSE NEIGHBOUR: 'it returns false'. Refute it at one input. -/
def fnObjectsOfAddsOnlyWhatIsMissingWrong : ChangeSpec := { name := "fnObjectsOfAddsOnlyWhatIsMissing", fn := fun _ => fun
  | [d1, d2, d3] => { results := [.lit (.bool false)], args := [d1, d2, d3] }
  | _ => none }
def FnObjectsOfAddsOnlyWhatIsMissingWrongFalsely : Prop := fnObjectsOfAddsOnlyWhatIsMissingRow.holds Try.pinned (OpenSpec.ofChange fnObjectsOfAddsOnlyWhatIsMissingWrong)

/-- 'zzlaws_catalog_b1.FnObjectsOfStableAcrossCalls': WHATEVER THE INPUT: true; the input reads as it did. -/
def fnObjectsOfStableAcrossCallsSpec : ChangeSpec := { name := "fnObjectsOfStableAcrossCalls", fn := fun _ => fun
  | [d1, d2, d3, d4] => { results := [.lit (.bool true)], args := [d1, d2, d3, d4] }
  | _ => none }
def fnObjectsOfStableAcrossCallsRow : OpenClaim := { program := "qxb6608823a", sum := "e991d92485b9847578cf50bf1614688abbc35aa3918121727251a117ac36fb6a", func := "example.com/stewardkit/stewardkit/zzlaws_catalog_b1.FnObjectsOfStableAcrossCalls", spec := "fnObjectsOfStableAcrossCalls", apart := false }
def FnObjectsOfStableAcrossCallsSaid : Prop := fnObjectsOfStableAcrossCallsRow.holds Try.pinned (OpenSpec.ofChange fnObjectsOfStableAcrossCallsSpec)

/-- ITS FALSE NEIGHBOUR: 'it returns false'. Refute it at one input. -/
def fnObjectsOfStableAcrossCallsWrong : ChangeSpec := { name := "fnObjectsOfStableAcrossCalls", fn := fun _ => fun
  | [d1, d2, d3, d4] => { results := [.lit (.bool false)], args := [d1, d2, d3, d4] }
  | _ => none }
def FnObjectsOfStableAcrossCallsWrongFalsely : Prop := fnObjectsOfStableAcrossCallsRow.holds Try.pinned (OpenSpec.ofChange fnObjectsOfStableAcrossCallsWrong)

/-- 'zzlaws_catalog_b1.FnChannelCutAgreesWithParts': WHATEVER THE INPUT: true; the input reads as it did. -/
def fnChannelCutAgreesWithPartsSpec : ChangeSpec := { name := "fnChannelCutAgreesWithParts", fn := fun _ => fun
  | [d1, d2, d3] => { results := [.lit (.bool true)], args := [d1, d2, d3] }
  | _ => none }
def fnChannelCutAgreesWithPartsRow : OpenClaim := { program := "qxb6608823a", sum := "e991d92485b9847578cf50bf1614688abbc35aa3918121727251a117ac36fb6a", func := "example.com/stewardkit/stewardkit/zzlaws_catalog_b1.FnChannelCutAgreesWithParts", spec := "fnChannelCutAgreesWithParts", apart := false }
def FnChannelCutAgreesWithPartsSaid : Prop := fnChannelCutAgreesWithPartsRow.holds Try.pinned (OpenSpec.ofChange fnChannelCutAgreesWithPartsSpec)

/-- ITS FALSE NEIGHBOUR: 'it returns false'. Refute it at one input. -/
def fnChannelCutAgreesWithPartsWrong : ChangeSpec := { name := "fnChannelCutAgreesWithParts", fn := fun _ => fun
  | [d1, d2, d3] => { results := [.lit (.bool false)], args := [d1, d2, d3] }
  | _ => none }
def FnChannelCutAgreesWithPartsWrongFalsely : Prop := fnChannelCutAgreesWithPartsRow.holds Try.pinned (OpenSpec.ofChange fnChannelCutAgreesWithPartsWrong)

/-- 'zzlaws_catalog_b1.FnChannelInsertedFoundUnlessEarlier': WHATEVER THE INPUT: true; the input reads as it did. -/
def fnChannelInsertedFoundUnlessEarlierSpec : ChangeSpec := { name := "fnChannelInsertedFoundUnlessEarlier", fn := fun _ => fun
  | [d1, d2, d3, d4] => { results := [.lit (.bool true)], args := [d1, d2, d3, d4] }
  | _ => none }
def fnChannelInsertedFoundUnlessEarlierRow : OpenClaim := { program := "qxb6608823a", sum := "e991d92485b9847578cf50bf1614688abbc35aa3918121727251a117ac36fb6a", func := "example.com/stewardkit/stewardkit/zzlaws_catalog_b1.FnChannelInsertedFoundUnlessEarlier", spec := "fnChannelInsertedFoundUnlessEarlier", apart := false }
def FnChannelInsertedFoundUnlessEarlierSaid : Prop := fnChannelInsertedFoundUnlessEarlierRow.holds Try.pinned (OpenSpec.ofChange fnChannelInsertedFoundUnlessEarlierSpec)

/-- ITS FALSE NEIGHBOUR: 'it returns false'. Refute it at one input. -/
def fnChannelInsertedFoundUnlessEarlierWrong : ChangeSpec := { name := "fnChannelInsertedFoundUnlessEarlier", fn := fun _ => fun
  | [d1, d2, d3, d4] => { results := [.lit (.bool false)], args := [d1, d2, d3, d4] }
  | _ => none }
def FnChannelInsertedFoundUnlessEarlierWrongFalsely : Prop := fnChannelInsertedFoundUnlessEarlierRow.holds Try.pinned (OpenSpec.ofChange fnChannelInsertedFoundUnlessEarlierWrong)

end Rows
end Go.Proofs.Qxb6608823a
