/-
  No cell of these rows narrows 'for every input' (looked for: loops, veiled, ifaces, maps, wideKeys, modest, calm, conditions, laid).
  DERIVED. THE GIVEN ROWS OF THIS SEAT. 3 by the template 'for every input the law returns true; each argument reads behind the call as it read before'; 0 by the template 'total and deterministic' (their statements: Qxb6608999aTotals.lean).
  GIVEN WITH THE SEED: the statements are not yours to turn. If you find one false, say at which input.
  Laid BY PROGRAM, IN A SANDBOX (cutbox-rows.mjs): the forced cells as the released guide's own fill.sh prints them over the translation 9dc50639163ee57d… (all of the seat's roots in one cut). By AI agents, Wed Nov 11 2026. No macro, syntax, notation, axiom, sorry.
-/
import Derived.Test.Qxb6608999aChecked
import GoSem.Claim
import GoSem.ClaimJoined
import GoSem.ClaimMapViews
import Derived.JoinedTies
import Derived.KernelRfl
namespace Go.Proofs.Qxb6608999a
/- THE CELL 'sum', in the pinned program and in every row, IS THE sha256 OF THE DUMP (.gsa) THAT Qxb6608999aProg.lean LOADS. Nothing in Lean hashes anything: it is a label: what it is worth is what the hold of that sum in a sandbox is worth. -/
noncomputable def Try.pinned : Pinned := { name := "qxb6608999a", sum := "9dc50639163ee57d5a59a8acb4fb72092bb7e1b188fcbb170f6022bb289af9b4", checked := Try.checked }
namespace Rows
def none {H : Type} : Left H := { results := [], args := [] }

/-- 'zzlaws_pkg_sim_b1.FnNodesHandsOutAFreshCopy': WHATEVER THE INPUT: true; the input reads as it did. -/
def fnNodesHandsOutAFreshCopySpec : ChangeSpec := { name := "fnNodesHandsOutAFreshCopy", fn := fun _ => fun
  | [d1, d2] => { results := [.lit (.bool true)], args := [d1, d2] }
  | _ => none }
def fnNodesHandsOutAFreshCopyRow : OpenClaim := { program := "qxb6608999a", sum := "9dc50639163ee57d5a59a8acb4fb72092bb7e1b188fcbb170f6022bb289af9b4", func := "example.com/ringwise/ringwise/zzlaws_pkg_sim_b1.FnNodesHandsOutAFreshCopy", spec := "fnNodesHandsOutAFreshCopy", apart := false }
def FnNodesHandsOutAFreshCopySaid : Prop := fnNodesHandsOutAFreshCopyRow.holds Try.pinned (OpenSpec.ofChange fnNodesHandsOutAFreshCopySpec)

/-- ITS FALSE NEIGHBOUR: 'it returns false'. Refute it at one input. -/
def fnNodesHandsOutAFreshCopyWrong : ChangeSpec := { name := "fnNodesHandsOutAFreshCopy", fn := fun _ => fun
  | [d1, d2] => { results := [.lit (.bool false)], args := [d1, d2] }
  | _ => none }
def FnNodesHandsOutAFreshCopyWrongFalsely : Prop := fnNodesHandsOutAFreshCopyRow.holds Try.pinned (OpenSpec.ofChange fnNodesHandsOutAFreshCopyWrong)

/-- 'zzlaws_pkg_sim_b1.FnFingerStartStepsExactlyTwoToTheI': WHATEVER THE INPUT: true; the input reads as it did. -/
def fnFingerStartStepsExactlyTwoToTheISpec : ChangeSpec := { name := "fnFingerStartStepsExactlyTwoToTheI", fn := fun _ => fun
  | [d1, d2, d3] => { results := [.lit (.bool true)], args := [d1, d2, d3] }
  | _ => none }
def fnFingerStartStepsExactlyTwoToTheIRow : OpenClaim := { program := "qxb6608999a", sum := "9dc50639163ee57d5a59a8acb4fb72092bb7e1b188fcbb170f6022bb289af9b4", func := "example.com/ringwise/ringwise/zzlaws_pkg_sim_b1.FnFingerStartStepsExactlyTwoToTheI", spec := "fnFingerStartStepsExactlyTwoToTheI", apart := false }
def FnFingerStartStepsExactlyTwoToTheISaid : Prop := fnFingerStartStepsExactlyTwoToTheIRow.holds Try.pinned (OpenSpec.ofChange fnFingerStartStepsExactlyTwoToTheISpec)

/-- ITS FALSE NEIGHBOUR: 'it returns false'. Refute it at one input. -/
def fnFingerStartStepsExactlyTwoToTheIWrong : ChangeSpec := { name := "fnFingerStartStepsExactlyTwoToTheI", fn := fun _ => fun
  | [d1, d2, d3] => { results := [.lit (.bool false)], args := [d1, d2, d3] }
  | _ => none }
def FnFingerStartStepsExactlyTwoToTheIWrongFalsely : Prop := fnFingerStartStepsExactlyTwoToTheIRow.holds Try.pinned (OpenSpec.ofChange fnFingerStartStepsExactlyTwoToTheIWrong)

/-- 'zzlaws_pkg_sim_b1.FnFingerStartsLieFurtherRoundInOrder': WHATEVER THE INPUT: true; the input reads as it did. -/
def fnFingerStartsLieFurtherRoundInOrderSpec : ChangeSpec := { name := "fnFingerStartsLieFurtherRoundInOrder", fn := fun _ => fun
  | [d1, d2, d3, d4] => { results := [.lit (.bool true)], args := [d1, d2, d3, d4] }
  | _ => none }
def fnFingerStartsLieFurtherRoundInOrderRow : OpenClaim := { program := "qxb6608999a", sum := "9dc50639163ee57d5a59a8acb4fb72092bb7e1b188fcbb170f6022bb289af9b4", func := "example.com/ringwise/ringwise/zzlaws_pkg_sim_b1.FnFingerStartsLieFurtherRoundInOrder", spec := "fnFingerStartsLieFurtherRoundInOrder", inPlace := ["internal/bytealg.Compare"], apart := false }
def FnFingerStartsLieFurtherRoundInOrderSaid : Prop := fnFingerStartsLieFurtherRoundInOrderRow.holds Try.pinned (OpenSpec.ofChange fnFingerStartsLieFurtherRoundInOrderSpec)

/-- ITS FALSE NEIGHBOUR: 'it returns false'. Refute it at one input. -/
def fnFingerStartsLieFurtherRoundInOrderWrong : ChangeSpec := { name := "fnFingerStartsLieFurtherRoundInOrder", fn := fun _ => fun
  | [d1, d2, d3, d4] => { results := [.lit (.bool false)], args := [d1, d2, d3, d4] }
  | _ => none }
def FnFingerStartsLieFurtherRoundInOrderWrongFalsely : Prop := fnFingerStartsLieFurtherRoundInOrderRow.holds Try.pinned (OpenSpec.ofChange fnFingerStartsLieFurtherRoundInOrderWrong)

end Rows
end Go.Proofs.Qxb6608999a
