/-
  No cell of these rows narrows 'for every input' (looked for: loops, veiled, ifaces, maps, wideKeys, modest, calm, conditions, laid).
  DERIVED. THE GIVEN ROWS OF THIS SEAT. 4 by the template 'for every input the law returns true; each argument reads behind the call as it read before'; 0 by the template 'total and deterministic' (their statements: Qxb6608984aTotals.lean).
  GIVEN WITH THE SEED: the statements are not yours to turn. If you find one false, say at which input.
  Laid BY PROGRAM, IN A SANDBOX (cutbox-rows.mjs): the forced cells as the released guide's own fill.sh prints them over the translation 169d6417bc1f4e5d… (all of the seat's roots in one cut). By AI agents, Wed Nov 11 2026. No macro, syntax, notation, axiom, sorry.
-/
import Derived.Test.Qxb6608984aChecked
import GoSem.Claim
import GoSem.ClaimJoined
import GoSem.ClaimMapViews
import Derived.JoinedTies
import Derived.KernelRfl
namespace Go.Proofs.Qxb6608984a
/- THE CELL 'sum', in the pinned program and in every row, IS THE sha256 OF THE DUMP (.gsa) THAT Qxb6608984aProg.lean LOADS. Nothing in Lean hashes anything: it is a label: what it is worth is what the hold of that sum in a sandbox is worth. -/
noncomputable def Try.pinned : Pinned := { name := "qxb6608984a", sum := "169d6417bc1f4e5dd7af9dff0e66cfa726015a8182fdce3e1417eb4de45b7135", checked := Try.checked }
namespace Rows
def none {H : Type} : Left H := { results := [], args := [] }

/-- 'zzlaws_root_b1.FnSeriesKeyCutsAndDecodes': WHATEVER THE INPUT: true; the input reads as it did. -/
def fnSeriesKeyCutsAndDecodesSpec : ChangeSpec := { name := "fnSeriesKeyCutsAndDecodes", fn := fun _ => fun
  | [d1, d2] => { results := [.lit (.bool true)], args := [d1, d2] }
  | _ => none }
def fnSeriesKeyCutsAndDecodesRow : OpenClaim := { program := "qxb6608984a", sum := "169d6417bc1f4e5dd7af9dff0e66cfa726015a8182fdce3e1417eb4de45b7135", func := "example.com/postmark-index/postmark-index/zzlaws_root_b1.FnSeriesKeyCutsAndDecodes", spec := "fnSeriesKeyCutsAndDecodes", apart := false }
def FnSeriesKeyCutsAndDecodesSaid : Prop := fnSeriesKeyCutsAndDecodesRow.holds Try.pinned (OpenSpec.ofChange fnSeriesKeyCutsAndDecodesSpec)

/-- ITS FALSE NEIGHBOUR: 'it returns false'. Refute it at one input. -/
def fnSeriesKeyCutsAndDecodesWrong : ChangeSpec := { name := "fnSeriesKeyCutsAndDecodes", fn := fun _ => fun
  | [d1, d2] => { results := [.lit (.bool false)], args := [d1, d2] }
  | _ => none }
def FnSeriesKeyCutsAndDecodesWrongFalsely : Prop := fnSeriesKeyCutsAndDecodesRow.holds Try.pinned (OpenSpec.ofChange fnSeriesKeyCutsAndDecodesWrong)

/-- 'zzlaws_root_b1.FnSeriesKeyEqualExactlyWhenLabelsEqual': WHATEVER THE INPUT: true; the input reads as it did. -/
def fnSeriesKeyEqualExactlyWhenLabelsEqualSpec : ChangeSpec := { name := "fnSeriesKeyEqualExactlyWhenLabelsEqual", fn := fun _ => fun
  | [d1, d2] => { results := [.lit (.bool true)], args := [d1, d2] }
  | _ => none }
def fnSeriesKeyEqualExactlyWhenLabelsEqualRow : OpenClaim := { program := "qxb6608984a", sum := "169d6417bc1f4e5dd7af9dff0e66cfa726015a8182fdce3e1417eb4de45b7135", func := "example.com/postmark-index/postmark-index/zzlaws_root_b1.FnSeriesKeyEqualExactlyWhenLabelsEqual", spec := "fnSeriesKeyEqualExactlyWhenLabelsEqual", apart := false }
def FnSeriesKeyEqualExactlyWhenLabelsEqualSaid : Prop := fnSeriesKeyEqualExactlyWhenLabelsEqualRow.holds Try.pinned (OpenSpec.ofChange fnSeriesKeyEqualExactlyWhenLabelsEqualSpec)

/-- ITS FALSE NEIGHBOUR: 'it returns false'. Refute it at one input. -/
def fnSeriesKeyEqualExactlyWhenLabelsEqualWrong : ChangeSpec := { name := "fnSeriesKeyEqualExactlyWhenLabelsEqual", fn := fun _ => fun
  | [d1, d2] => { results := [.lit (.bool false)], args := [d1, d2] }
  | _ => none }
def FnSeriesKeyEqualExactlyWhenLabelsEqualWrongFalsely : Prop := fnSeriesKeyEqualExactlyWhenLabelsEqualRow.holds Try.pinned (OpenSpec.ofChange fnSeriesKeyEqualExactlyWhenLabelsEqualWrong)

/-- 'zzlaws_root_b1.FnScannerNameReadsMaximalRunResumable': WHATEVER THE INPUT: true; the input reads as it did. -/
def fnScannerNameReadsMaximalRunResumableSpec : ChangeSpec := { name := "fnScannerNameReadsMaximalRunResumable", fn := fun _ => fun
  | [d1, d2, d3, d4] => { results := [.lit (.bool true)], args := [d1, d2, d3, d4] }
  | _ => none }
def fnScannerNameReadsMaximalRunResumableRow : OpenClaim := { program := "qxb6608984a", sum := "169d6417bc1f4e5dd7af9dff0e66cfa726015a8182fdce3e1417eb4de45b7135", func := "example.com/postmark-index/postmark-index/zzlaws_root_b1.FnScannerNameReadsMaximalRunResumable", spec := "fnScannerNameReadsMaximalRunResumable", apart := false }
def FnScannerNameReadsMaximalRunResumableSaid : Prop := fnScannerNameReadsMaximalRunResumableRow.holds Try.pinned (OpenSpec.ofChange fnScannerNameReadsMaximalRunResumableSpec)

/-- ITS FALSE NEIGHBOUR: 'it returns false'. Refute it at one input. -/
def fnScannerNameReadsMaximalRunResumableWrong : ChangeSpec := { name := "fnScannerNameReadsMaximalRunResumable", fn := fun _ => fun
  | [d1, d2, d3, d4] => { results := [.lit (.bool false)], args := [d1, d2, d3, d4] }
  | _ => none }
def FnScannerNameReadsMaximalRunResumableWrongFalsely : Prop := fnScannerNameReadsMaximalRunResumableRow.holds Try.pinned (OpenSpec.ofChange fnScannerNameReadsMaximalRunResumableWrong)

/-- 'zzlaws_root_b1.FnScannerNameStopsAtCutAndAgain': WHATEVER THE INPUT: true; the input reads as it did. -/
def fnScannerNameStopsAtCutAndAgainSpec : ChangeSpec := { name := "fnScannerNameStopsAtCutAndAgain", fn := fun _ => fun
  | [d1, d2, d3, d4] => { results := [.lit (.bool true)], args := [d1, d2, d3, d4] }
  | _ => none }
def fnScannerNameStopsAtCutAndAgainRow : OpenClaim := { program := "qxb6608984a", sum := "169d6417bc1f4e5dd7af9dff0e66cfa726015a8182fdce3e1417eb4de45b7135", func := "example.com/postmark-index/postmark-index/zzlaws_root_b1.FnScannerNameStopsAtCutAndAgain", spec := "fnScannerNameStopsAtCutAndAgain", apart := false }
def FnScannerNameStopsAtCutAndAgainSaid : Prop := fnScannerNameStopsAtCutAndAgainRow.holds Try.pinned (OpenSpec.ofChange fnScannerNameStopsAtCutAndAgainSpec)

/-- ITS FALSE NEIGHBOUR: 'it returns false'. Refute it at one input. -/
def fnScannerNameStopsAtCutAndAgainWrong : ChangeSpec := { name := "fnScannerNameStopsAtCutAndAgain", fn := fun _ => fun
  | [d1, d2, d3, d4] => { results := [.lit (.bool false)], args := [d1, d2, d3, d4] }
  | _ => none }
def FnScannerNameStopsAtCutAndAgainWrongFalsely : Prop := fnScannerNameStopsAtCutAndAgainRow.holds Try.pinned (OpenSpec.ofChange fnScannerNameStopsAtCutAndAgainWrong)

end Rows
end Go.Proofs.Qxb6608984a
