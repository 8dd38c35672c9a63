/-
  No cell of these rows narrows 'for every input' (looked for: loops, veiled, ifaces, maps, wideKeys, modest, calm, conditions, laid).
  DERIVED. THE GIVEN ROWS OF THIS SEAT. 2 by the template 'for every input the law returns true; each argument reads behind the call as it read before'; 0 by the template 'total and deterministic' (their statements: Qxb6628592aTotals.lean).
  GIVEN WITH THE SEED: the statements are not yours to turn. If you find one false, say at which input.
  Laid BY PROGRAM, IN A SANDBOX (cutbox-rows.mjs): the forced cells as the released guide's own fill.sh prints them over the translation b5bc4e319d65bddd… (all of the seat's roots in one cut). By AI agents, Wed Nov 11 2026. No macro, syntax, notation, axiom, sorry.
-/
import Derived.Test.Qxb6628592aChecked
import GoSem.Claim
import GoSem.ClaimJoined
import GoSem.ClaimMapViews
import Derived.JoinedTies
import Derived.KernelRfl
namespace Go.Proofs.Qxb6628592a
/- THE CELL 'sum', in the pinned program and in every row, IS THE sha256 OF THE DUMP (.gsa) THAT Qxb6628592aProg.lean LOADS. Nothing in Lean hashes anything: it is a label: what it is worth is what the hold of that sum in a sandbox is worth. -/
noncomputable def Try.pinned : Pinned := { name := "qxb6628592a", sum := "b5bc4e319d65bddda39311fda0d72b8b4dc7d367a6da242d158313bd93841d63", checked := Try.checked }
namespace Rows
def none {H : Type} : Left H := { results := [], args := [] }

/-- 'zzlaws_internal_uritemplate_b1.FnNamesSplitAtAnyCut': WHATEVER THE INPUT: true; the input reads as it did. -/
def fnNamesSplitAtAnyCutSpec : ChangeSpec := { name := "fnNamesSplitAtAnyCut", fn := fun _ => fun
  | [d1, d2] => { results := [.lit (.bool true)], args := [d1, d2] }
  | _ => none }
def fnNamesSplitAtAnyCutRow : OpenClaim := { program := "qxb6628592a", sum := "b5bc4e319d65bddda39311fda0d72b8b4dc7d367a6da242d158313bd93841d63", func := "example.com/veilstub/veilstub/zzlaws_internal_uritemplate_b1.FnNamesSplitAtAnyCut", spec := "fnNamesSplitAtAnyCut", apart := false }
def FnNamesSplitAtAnyCutSaid : Prop := fnNamesSplitAtAnyCutRow.holds Try.pinned (OpenSpec.ofChange fnNamesSplitAtAnyCutSpec)

/-- ITS FALSE NEIGHBOUR: 'it returns false'. Refute it at one input. -/
def fnNamesSplitAtAnyCutWrong : ChangeSpec := { name := "fnNamesSplitAtAnyCut", fn := fun _ => fun
  | [d1, d2] => { results := [.lit (.bool false)], args := [d1, d2] }
  | _ => none }
def FnNamesSplitAtAnyCutWrongFalsely : Prop := fnNamesSplitAtAnyCutRow.holds Try.pinned (OpenSpec.ofChange fnNamesSplitAtAnyCutWrong)

/-- 'zzlaws_internal_uritemplate_b1.FnNamesInsertPartAnywhere': WHATEVER THE INPUT: true; the input reads as it did. -/
def fnNamesInsertPartAnywhereSpec : ChangeSpec := { name := "fnNamesInsertPartAnywhere", fn := fun _ => fun
  | [d1, d2, d3] => { results := [.lit (.bool true)], args := [d1, d2, d3] }
  | _ => none }
def fnNamesInsertPartAnywhereRow : OpenClaim := { program := "qxb6628592a", sum := "b5bc4e319d65bddda39311fda0d72b8b4dc7d367a6da242d158313bd93841d63", func := "example.com/veilstub/veilstub/zzlaws_internal_uritemplate_b1.FnNamesInsertPartAnywhere", spec := "fnNamesInsertPartAnywhere", apart := false }
def FnNamesInsertPartAnywhereSaid : Prop := fnNamesInsertPartAnywhereRow.holds Try.pinned (OpenSpec.ofChange fnNamesInsertPartAnywhereSpec)

/-- ITS FALSE NEIGHBOUR: 'it returns false'. Refute it at one input. -/
def fnNamesInsertPartAnywhereWrong : ChangeSpec := { name := "fnNamesInsertPartAnywhere", fn := fun _ => fun
  | [d1, d2, d3] => { results := [.lit (.bool false)], args := [d1, d2, d3] }
  | _ => none }
def FnNamesInsertPartAnywhereWrongFalsely : Prop := fnNamesInsertPartAnywhereRow.holds Try.pinned (OpenSpec.ofChange fnNamesInsertPartAnywhereWrong)

end Rows
end Go.Proofs.Qxb6628592a
