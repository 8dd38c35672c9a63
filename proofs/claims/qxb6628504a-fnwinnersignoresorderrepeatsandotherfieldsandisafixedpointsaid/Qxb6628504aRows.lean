/-
  No cell of these rows narrows 'for every input' (looked for: loops, veiled, ifaces, maps, wideKeys, modest, calm, conditions, laid).
  DERIVED. THE GIVEN ROWS OF THIS SEAT. 2 by the template 'for every input the law returns true; each argument reads behind the call as it read before'; 0 by the template 'total and deterministic' (their statements: Qxb6628504aTotals.lean).
  GIVEN WITH THE SEED: the statements are not yours to turn. If you find one false, say at which input.
  Laid BY PROGRAM, IN A SANDBOX (cutbox-rows.mjs): the forced cells as the released guide's own fill.sh prints them over the translation 290199b58facc776… (all of the seat's roots in one cut). By AI agents, Wed Nov 11 2026. No macro, syntax, notation, axiom, sorry.
-/
import Derived.Test.Qxb6628504aChecked
import GoSem.Claim
import GoSem.ClaimJoined
import GoSem.ClaimMapViews
import Derived.JoinedTies
import Derived.KernelRfl
namespace Go.Proofs.Qxb6628504a
/- THE CELL 'sum', in the pinned program and in every row, IS THE sha256 OF THE DUMP (.gsa) THAT Qxb6628504aProg.lean LOADS. Nothing in Lean hashes anything: it is a label: what it is worth is what the hold of that sum in a sandbox is worth. -/
noncomputable def Try.pinned : Pinned := { name := "qxb6628504a", sum := "290199b58facc7769e11916ed0c30ce52fb320f1f674dc4992595898879de814", checked := Try.checked }
namespace Rows
def none {H : Type} : Left H := { results := [], args := [] }

/-- 'zzlaws_tender_b1.FnWinnersOfJoinedAwardsIsSortedUnionOfParts': WHATEVER THE INPUT: true; the input reads as it did. -/
def fnWinnersOfJoinedAwardsIsSortedUnionOfPartsSpec : ChangeSpec := { name := "fnWinnersOfJoinedAwardsIsSortedUnionOfParts", fn := fun _ => fun
  | [d1, d2, d3, d4, d5, d6, d7, d8, d9] => { results := [.lit (.bool true)], args := [d1, d2, d3, d4, d5, d6, d7, d8, d9] }
  | _ => none }
def fnWinnersOfJoinedAwardsIsSortedUnionOfPartsRow : OpenClaim := { program := "qxb6628504a", sum := "290199b58facc7769e11916ed0c30ce52fb320f1f674dc4992595898879de814", func := "example.com/tenderline/tenderline/zzlaws_tender_b1.FnWinnersOfJoinedAwardsIsSortedUnionOfParts", spec := "fnWinnersOfJoinedAwardsIsSortedUnionOfParts", recurses := true, apart := false }
def FnWinnersOfJoinedAwardsIsSortedUnionOfPartsSaid : Prop := fnWinnersOfJoinedAwardsIsSortedUnionOfPartsRow.holds Try.pinned (OpenSpec.ofChange fnWinnersOfJoinedAwardsIsSortedUnionOfPartsSpec)

/-- ITS FALSE NEIGHBOUR: 'it returns false'. Refute it at one input. -/
def fnWinnersOfJoinedAwardsIsSortedUnionOfPartsWrong : ChangeSpec := { name := "fnWinnersOfJoinedAwardsIsSortedUnionOfParts", fn := fun _ => fun
  | [d1, d2, d3, d4, d5, d6, d7, d8, d9] => { results := [.lit (.bool false)], args := [d1, d2, d3, d4, d5, d6, d7, d8, d9] }
  | _ => none }
def FnWinnersOfJoinedAwardsIsSortedUnionOfPartsWrongFalsely : Prop := fnWinnersOfJoinedAwardsIsSortedUnionOfPartsRow.holds Try.pinned (OpenSpec.ofChange fnWinnersOfJoinedAwardsIsSortedUnionOfPartsWrong)

/-- 'zzlaws_tender_b1.FnWinnersIgnoresOrderRepeatsAndOtherFieldsAndIsAFixedPoint': WHATEVER THE INPUT: true; the input reads as it did. -/
def fnWinnersIgnoresOrderRepeatsAndOtherFieldsAndIsAFixedPointSpec : ChangeSpec := { name := "fnWinnersIgnoresOrderRepeatsAndOtherFieldsAndIsAFixedPoint", fn := fun _ => fun
  | [d1, d2, d3, d4, d5, d6, d7, d8, d9] => { results := [.lit (.bool true)], args := [d1, d2, d3, d4, d5, d6, d7, d8, d9] }
  | _ => none }
def fnWinnersIgnoresOrderRepeatsAndOtherFieldsAndIsAFixedPointRow : OpenClaim := { program := "qxb6628504a", sum := "290199b58facc7769e11916ed0c30ce52fb320f1f674dc4992595898879de814", func := "example.com/tenderline/tenderline/zzlaws_tender_b1.FnWinnersIgnoresOrderRepeatsAndOtherFieldsAndIsAFixedPoint", spec := "fnWinnersIgnoresOrderRepeatsAndOtherFieldsAndIsAFixedPoint", recurses := true, apart := false }
def FnWinnersIgnoresOrderRepeatsAndOtherFieldsAndIsAFixedPointSaid : Prop := fnWinnersIgnoresOrderRepeatsAndOtherFieldsAndIsAFixedPointRow.holds Try.pinned (OpenSpec.ofChange fnWinnersIgnoresOrderRepeatsAndOtherFieldsAndIsAFixedPointSpec)

/-- ITS FALSE NEIGHBOUR: 'it returns false'. Refute it at one input. -/
def fnWinnersIgnoresOrderRepeatsAndOtherFieldsAndIsAFixedPointWrong : ChangeSpec := { name := "fnWinnersIgnoresOrderRepeatsAndOtherFieldsAndIsAFixedPoint", fn := fun _ => fun
  | [d1, d2, d3, d4, d5, d6, d7, d8, d9] => { results := [.lit (.bool false)], args := [d1, d2, d3, d4, d5, d6, d7, d8, d9] }
  | _ => none }
def FnWinnersIgnoresOrderRepeatsAndOtherFieldsAndIsAFixedPointWrongFalsely : Prop := fnWinnersIgnoresOrderRepeatsAndOtherFieldsAndIsAFixedPointRow.holds Try.pinned (OpenSpec.ofChange fnWinnersIgnoresOrderRepeatsAndOtherFieldsAndIsAFixedPointWrong)

end Rows
end Go.Proofs.Qxb6628504a
