/-
  NARROWER THAN 'FOR EVERY INPUT', by the rows' own cells (each row's printed sentence says how): FnJoinTwiceReplacesFirstLease: ifaces, laid.
  DERIVED. THE GIVEN ROWS OF THIS SEAT. 1 by the template 'for every input the law returns true; each argument reads behind the call as it read before'; 0 by the template 'total and deterministic' (their statements: Qxb6615073aDoorTotals.lean).
  GIVEN WITH THE SEED: the statements are not yours to turn. If you find one false, say at which input.
  Laid BY PROGRAM, IN A SANDBOX (cutbox-rows.mjs): the forced cells as the released guide's own fill.sh prints them over the translation 3b64605174b5b4d0… (all of the seat's roots in one cut). By AI agents, Wed Nov 11 2026. No macro, syntax, notation, axiom, sorry.
-/
import Derived.Test.Qxb6615073aDoorChecked
import GoSem.Claim
import GoSem.ClaimJoined
import GoSem.ClaimMapViews
import Derived.JoinedTies
import Derived.KernelRfl
namespace Go.Proofs.Qxb6615073aDoor
/- THE CELL 'sum', in the pinned program and in every row, IS THE sha256 OF THE DUMP (.gsa) THAT Qxb6615073aDoorProg.lean LOADS. Nothing in Lean hashes anything: it is a label: what it is worth is what the hold of that sum in a sandbox is worth. -/
noncomputable def Tryd.pinned : Pinned := { name := "qxb6615073adoor", sum := "3b64605174b5b4d00050a0c2c549e769f9df9f3fac5dd46d593fed89c3d6bef7", checked := Tryd.checked }
namespace Rows
def none {H : Type} : Left H := { results := [], args := [] }

/- WHAT THE LISTED PACKAGE-LEVEL VARIABLES READ AS WHEN THE CALL BEGINS. Each datum BY PROGRAM (the guide's laid-datum.mjs) off the statement by which the dump's own 'gosem.cut.vars' lays the variable. In a bare row this is a premise. The card (Qxb6615073aDoorCards.lean) ties it to the program's text. -/
def laid_example_com_leasehold_leasehold_internal_cluster_ErrAwaited {H : Type} : DataW H := .iface "*errors.errorString" (.ptr (.agg [.lit (.string [97, 32, 100, 101, 108, 105, 118, 101, 114, 121, 32, 97, 119, 97, 105, 116, 115, 32, 116, 104, 105, 115, 32, 109, 101, 109, 98, 101, 114, 39, 115, 32, 97, 99, 107, 110, 111, 119, 108, 101, 100, 103, 101, 109, 101, 110, 116, 59, 32, 106, 111, 105, 110, 32, 97, 103, 97, 105, 110, 32, 111, 110, 99, 101, 32, 105, 116, 115, 32, 108, 101, 97, 115, 101, 32, 105, 115, 32, 111, 118, 101, 114])]))

/-- 'zzlaws_internal_cluster_b1.FnJoinTwiceReplacesFirstLease': WHATEVER THE INPUT: true; the input reads as it did. -/
def fnJoinTwiceReplacesFirstLeaseSpec : ChangeSpec := { name := "fnJoinTwiceReplacesFirstLease", vars := ["example.com/leasehold/leasehold/internal/cluster.ErrAwaited"], fn := fun _ => fun
  | [d1, d2, d3, d4, d5, d6, d7, d8, d9, g1] => { results := [.lit (.bool true)], args := [d1, d2, d3, d4, d5, d6, d7, d8, d9], vars := [g1] }
  | _ => none }
def fnJoinTwiceReplacesFirstLeaseRow : OpenClaim := { program := "qxb6615073adoor", sum := "3b64605174b5b4d00050a0c2c549e769f9df9f3fac5dd46d593fed89c3d6bef7", func := "example.com/leasehold/leasehold/zzlaws_internal_cluster_b1.FnJoinTwiceReplacesFirstLease", spec := "fnJoinTwiceReplacesFirstLease", unfollowed := true, recurses := true, named := ["example.com/leasehold/leasehold/internal/cluster.ErrAwaited"], ifaces := true, apart := false, laid := [("example.com/leasehold/leasehold/internal/cluster.ErrAwaited", laid_example_com_leasehold_leasehold_internal_cluster_ErrAwaited)] }
def FnJoinTwiceReplacesFirstLeaseSaid : Prop := fnJoinTwiceReplacesFirstLeaseRow.holds Tryd.pinned (OpenSpec.ofChange fnJoinTwiceReplacesFirstLeaseSpec)

/-- ITS FALSE NEIGHBOUR: 'it returns false'. Refute it at one input. -/
def fnJoinTwiceReplacesFirstLeaseWrong : ChangeSpec := { name := "fnJoinTwiceReplacesFirstLease", vars := ["example.com/leasehold/leasehold/internal/cluster.ErrAwaited"], fn := fun _ => fun
  | [d1, d2, d3, d4, d5, d6, d7, d8, d9, g1] => { results := [.lit (.bool false)], args := [d1, d2, d3, d4, d5, d6, d7, d8, d9], vars := [g1] }
  | _ => none }
def FnJoinTwiceReplacesFirstLeaseWrongFalsely : Prop := fnJoinTwiceReplacesFirstLeaseRow.holds Tryd.pinned (OpenSpec.ofChange fnJoinTwiceReplacesFirstLeaseWrong)

end Rows
end Go.Proofs.Qxb6615073aDoor
