/-
  No cell of these rows narrows 'for every input' (looked for: loops, veiled, ifaces, maps, wideKeys, modest, calm, conditions, laid).
  DERIVED. THE GIVEN ROWS OF THIS SEAT. 2 by the template 'for every input the law returns true; each argument reads behind the call as it read before'; 0 by the template 'total and deterministic' (their statements: Qxb6628546aTotals.lean).
  GIVEN WITH THE SEED: the statements are not yours to turn. If you find one false, say at which input.
  Laid BY PROGRAM, IN A SANDBOX (cutbox-rows.mjs): the forced cells as the released guide's own fill.sh prints them over the translation c5613cba0cf5db3b… (all of the seat's roots in one cut). By AI agents, Wed Nov 11 2026. No macro, syntax, notation, axiom, sorry.
-/
import Derived.Test.Qxb6628546aChecked
import GoSem.Claim
import GoSem.ClaimJoined
import GoSem.ClaimMapViews
import Derived.JoinedTies
import Derived.KernelRfl
namespace Go.Proofs.Qxb6628546a
/- THE CELL 'sum', in the pinned program and in every row, IS THE sha256 OF THE DUMP (.gsa) THAT Qxb6628546aProg.lean LOADS. Nothing in Lean hashes anything: it is a label: what it is worth is what the hold of that sum in a sandbox is worth. -/
noncomputable def Try.pinned : Pinned := { name := "qxb6628546a", sum := "c5613cba0cf5db3bffebd7873d9fc234f888166614025ad6649359bd0e6f4548", checked := Try.checked }
namespace Rows
def none {H : Type} : Left H := { results := [], args := [] }

/-- 'zzlaws_root_b1.FnScanAtEOFSplitsIntoLines': WHATEVER THE INPUT: true; the input reads as it did. -/
def fnScanAtEOFSplitsIntoLinesSpec : ChangeSpec := { name := "fnScanAtEOFSplitsIntoLines", fn := fun _ => fun
  | [d] => { results := [.lit (.bool true)], args := [d] }
  | _ => none }
def fnScanAtEOFSplitsIntoLinesRow : OpenClaim := { program := "qxb6628546a", sum := "c5613cba0cf5db3bffebd7873d9fc234f888166614025ad6649359bd0e6f4548", func := "example.com/text-to-units/text-to-units/zzlaws_root_b1.FnScanAtEOFSplitsIntoLines", spec := "fnScanAtEOFSplitsIntoLines", apart := false }
def FnScanAtEOFSplitsIntoLinesSaid : Prop := fnScanAtEOFSplitsIntoLinesRow.holds Try.pinned (OpenSpec.ofChange fnScanAtEOFSplitsIntoLinesSpec)

/-- ITS FALSE NEIGHBOUR: 'it returns false'. Refute it at one input. -/
def fnScanAtEOFSplitsIntoLinesWrong : ChangeSpec := { name := "fnScanAtEOFSplitsIntoLines", fn := fun _ => fun
  | [d] => { results := [.lit (.bool false)], args := [d] }
  | _ => none }
def FnScanAtEOFSplitsIntoLinesWrongFalsely : Prop := fnScanAtEOFSplitsIntoLinesRow.holds Try.pinned (OpenSpec.ofChange fnScanAtEOFSplitsIntoLinesWrong)

/-- 'zzlaws_root_b1.FnStreamedLinesMatchWholeRead': WHATEVER THE INPUT: true; the input reads as it did. -/
def fnStreamedLinesMatchWholeReadSpec : ChangeSpec := { name := "fnStreamedLinesMatchWholeRead", fn := fun _ => fun
  | [d1, d2] => { results := [.lit (.bool true)], args := [d1, d2] }
  | _ => none }
def fnStreamedLinesMatchWholeReadRow : OpenClaim := { program := "qxb6628546a", sum := "c5613cba0cf5db3bffebd7873d9fc234f888166614025ad6649359bd0e6f4548", func := "example.com/text-to-units/text-to-units/zzlaws_root_b1.FnStreamedLinesMatchWholeRead", spec := "fnStreamedLinesMatchWholeRead", apart := false }
def FnStreamedLinesMatchWholeReadSaid : Prop := fnStreamedLinesMatchWholeReadRow.holds Try.pinned (OpenSpec.ofChange fnStreamedLinesMatchWholeReadSpec)

/-- ITS FALSE NEIGHBOUR: 'it returns false'. Refute it at one input. -/
def fnStreamedLinesMatchWholeReadWrong : ChangeSpec := { name := "fnStreamedLinesMatchWholeRead", fn := fun _ => fun
  | [d1, d2] => { results := [.lit (.bool false)], args := [d1, d2] }
  | _ => none }
def FnStreamedLinesMatchWholeReadWrongFalsely : Prop := fnStreamedLinesMatchWholeReadRow.holds Try.pinned (OpenSpec.ofChange fnStreamedLinesMatchWholeReadWrong)

end Rows
end Go.Proofs.Qxb6628546a
