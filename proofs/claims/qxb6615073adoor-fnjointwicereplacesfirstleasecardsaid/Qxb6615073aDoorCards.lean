/-
  DERIVED. GIVEN WITH THE SEED: THE CARDS: each row of Qxb6615073aDoorRows.lean that lists a variable, with what it lists TIED to the program's text (the seventh form; the later family's looks); each row that meets fmt, with fmt's text TOLD by the authors' own Lean function (tested against real Go, not proved from fmt's source: count such statements apart). THE CARD IS WHAT COUNTS. Prove the row's statement (the work); the ties are given (Qxb6615073aDoorTie.lean); close each card by the builder's one call (the guide's Derived/Test/ToyasCard.lean, 'card_holds'). Laid BY PROGRAM, IN A SANDBOX (cutbox-door.mjs). By AI agents, Wed Nov 11 2026. No macro, syntax, notation, axiom, sorry.
-/
import Derived.Test.Qxb6615073aDoorRows
import GoSem.ClaimSeven
namespace Go.Proofs.Qxb6615073aDoor
namespace Rows

/-- THE TIED CARD OF 'zzlaws_internal_cluster_b1.FnJoinTwiceReplacesFirstLease'. -/
def fnJoinTwiceReplacesFirstLeaseCard : Claim7 := { stood := { row := fnJoinTwiceReplacesFirstLeaseRow, standIns := [], harness := (true, "ddcf4b67ef08f3aa4cb6a40909c233bb7a37c14e77113271d9a4507034c3c383"), looks := false }, kinds := [], alts := [], laidByText := true, laidKinds := [.sentinel], laidTests := true, laidLooks := .later }
def FnJoinTwiceReplacesFirstLeaseCardSaid : Prop := Claim7.holds Tryd.pinned (.plain (OpenSpec.ofChange fnJoinTwiceReplacesFirstLeaseSpec)) fnJoinTwiceReplacesFirstLeaseCard
end Rows
end Go.Proofs.Qxb6615073aDoor
