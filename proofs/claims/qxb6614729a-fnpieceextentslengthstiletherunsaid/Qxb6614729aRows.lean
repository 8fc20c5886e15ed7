/-
  No cell of these rows narrows 'for every input' (looked for: loops, veiled, ifaces, maps, wideKeys, modest, calm, conditions, laid).
  DERIVED. THE GIVEN ROWS OF THIS SEAT. 2 by the template 'for every input the law returns true; each argument reads behind the call as it read before'; 0 by the template 'total and deterministic' (their statements: Qxb6614729aTotals.lean).
  GIVEN WITH THE SEED: the statements are not yours to turn. If you find one false, say at which input.
  Laid BY PROGRAM, IN A SANDBOX (cutbox-rows.mjs): the forced cells as the released guide's own fill.sh prints them over the translation b8a36c50c88b586f… (all of the seat's roots in one cut). By AI agents, Wed Nov 11 2026. No macro, syntax, notation, axiom, sorry.
-/
import Derived.Test.Qxb6614729aChecked
import GoSem.Claim
import GoSem.ClaimJoined
import GoSem.ClaimMapViews
import Derived.JoinedTies
import Derived.KernelRfl
namespace Go.Proofs.Qxb6614729a
/- THE CELL 'sum', in the pinned program and in every row, IS THE sha256 OF THE DUMP (.gsa) THAT Qxb6614729aProg.lean LOADS. Nothing in Lean hashes anything: it is a label: what it is worth is what the hold of that sum in a sandbox is worth. -/
noncomputable def Try.pinned : Pinned := { name := "qxb6614729a", sum := "b8a36c50c88b586f791029274b4b31d89a6cc43eae79dc2825a28498a67f049e", checked := Try.checked }
namespace Rows
def none {H : Type} : Left H := { results := [], args := [] }

/-- 'zzlaws_metainfo_b1.FnPieceExtentsLengthClosesOnNextStart': WHATEVER THE INPUT: true; the input reads as it did. -/
def fnPieceExtentsLengthClosesOnNextStartSpec : ChangeSpec := { name := "fnPieceExtentsLengthClosesOnNextStart", fn := fun _ => fun
  | [d1, d2, d3] => { results := [.lit (.bool true)], args := [d1, d2, d3] }
  | _ => none }
def fnPieceExtentsLengthClosesOnNextStartRow : OpenClaim := { program := "qxb6614729a", sum := "b8a36c50c88b586f791029274b4b31d89a6cc43eae79dc2825a28498a67f049e", func := "example.com/peerloom/peerloom/zzlaws_metainfo_b1.FnPieceExtentsLengthClosesOnNextStart", spec := "fnPieceExtentsLengthClosesOnNextStart", apart := false }
def FnPieceExtentsLengthClosesOnNextStartSaid : Prop := fnPieceExtentsLengthClosesOnNextStartRow.holds Try.pinned (OpenSpec.ofChange fnPieceExtentsLengthClosesOnNextStartSpec)

/-- ITS FALSE NEIGHBOUR: 'it returns false'. Refute it at one input. -/
def fnPieceExtentsLengthClosesOnNextStartWrong : ChangeSpec := { name := "fnPieceExtentsLengthClosesOnNextStart", fn := fun _ => fun
  | [d1, d2, d3] => { results := [.lit (.bool false)], args := [d1, d2, d3] }
  | _ => none }
def FnPieceExtentsLengthClosesOnNextStartWrongFalsely : Prop := fnPieceExtentsLengthClosesOnNextStartRow.holds Try.pinned (OpenSpec.ofChange fnPieceExtentsLengthClosesOnNextStartWrong)

/-- 'zzlaws_metainfo_b1.FnPieceExtentsLengthsTileTheRun': WHATEVER THE INPUT: true; the input reads as it did. -/
def fnPieceExtentsLengthsTileTheRunSpec : ChangeSpec := { name := "fnPieceExtentsLengthsTileTheRun", fn := fun _ => fun
  | [d1, d2] => { results := [.lit (.bool true)], args := [d1, d2] }
  | _ => none }
def fnPieceExtentsLengthsTileTheRunRow : OpenClaim := { program := "qxb6614729a", sum := "b8a36c50c88b586f791029274b4b31d89a6cc43eae79dc2825a28498a67f049e", func := "example.com/peerloom/peerloom/zzlaws_metainfo_b1.FnPieceExtentsLengthsTileTheRun", spec := "fnPieceExtentsLengthsTileTheRun", apart := false }
def FnPieceExtentsLengthsTileTheRunSaid : Prop := fnPieceExtentsLengthsTileTheRunRow.holds Try.pinned (OpenSpec.ofChange fnPieceExtentsLengthsTileTheRunSpec)

/-- ITS FALSE NEIGHBOUR: 'it returns false'. Refute it at one input. -/
def fnPieceExtentsLengthsTileTheRunWrong : ChangeSpec := { name := "fnPieceExtentsLengthsTileTheRun", fn := fun _ => fun
  | [d1, d2] => { results := [.lit (.bool false)], args := [d1, d2] }
  | _ => none }
def FnPieceExtentsLengthsTileTheRunWrongFalsely : Prop := fnPieceExtentsLengthsTileTheRunRow.holds Try.pinned (OpenSpec.ofChange fnPieceExtentsLengthsTileTheRunWrong)

end Rows
end Go.Proofs.Qxb6614729a
