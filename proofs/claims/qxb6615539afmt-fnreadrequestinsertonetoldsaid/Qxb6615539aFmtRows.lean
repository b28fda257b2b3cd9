/-
  No cell of these rows narrows 'for every input' (looked for: loops, veiled, ifaces, maps, wideKeys, modest, calm, conditions, laid).
  DERIVED. THE GIVEN ROWS OF THIS SEAT. 4 by the template 'for every input the law returns true; each argument reads behind the call as it read before'; 0 by the template 'total and deterministic' (their statements: Qxb6615539aFmtTotals.lean).
  GIVEN WITH THE SEED: the statements are not yours to turn. If you find one false, say at which input.
  Laid BY PROGRAM, IN A SANDBOX (cutbox-rows.mjs): the forced cells as the released guide's own fill.sh prints them over the translation d5419e14b4279616… (all of the seat's roots in one cut). By AI agents, Wed Nov 11 2026. No macro, syntax, notation, axiom, sorry.
-/
import Derived.Test.Qxb6615539aFmtChecked
import GoSem.Claim
import GoSem.ClaimJoined
import GoSem.ClaimMapViews
import Derived.JoinedTies
import Derived.KernelRfl
namespace Go.Proofs.Qxb6615539aFmt
/- THE CELL 'sum', in the pinned program and in every row, IS THE sha256 OF THE DUMP (.gsa) THAT Qxb6615539aFmtProg.lean LOADS. Nothing in Lean hashes anything: it is a label: what it is worth is what the hold of that sum in a sandbox is worth. -/
noncomputable def Tryf.pinned : Pinned := { name := "qxb6615539afmt", sum := "d5419e14b427961623a0a8ced88ca5066721edd7fe39ff301fd9a337fe40dd4b", checked := Tryf.checked }
namespace Rows
def none {H : Type} : Left H := { results := [], args := [] }

/-- 'zzlaws_internal_register_b1.FnReadRequestBeforeAndAfter': WHATEVER THE INPUT: true; the input reads as it did. -/
def fnReadRequestBeforeAndAfterSpec : ChangeSpec := { name := "fnReadRequestBeforeAndAfter", fn := fun _ => fun
  | [d1, d2, d3] => { results := [.lit (.bool true)], args := [d1, d2, d3] }
  | _ => none }
def fnReadRequestBeforeAndAfterRow : OpenClaim := { program := "qxb6615539afmt", sum := "d5419e14b427961623a0a8ced88ca5066721edd7fe39ff301fd9a337fe40dd4b", func := "example.com/quorate/quorate/zzlaws_internal_register_b1.FnReadRequestBeforeAndAfter", spec := "fnReadRequestBeforeAndAfter", stops := ["fmt.errorf"], inPlace := ["fmt.errorf", "internal/bytealg.Compare"], unfollowed := true, recurses := true, apart := false }
/-- NO THEOREM (fmt's text is open here; it may be false): for the released tool's asking of the row's closed facts alone. THE STATEMENT IS 'FnReadRequestBeforeAndAfterToldSaid' (Qxb6615539aFmtCards.lean). -/
def FnReadRequestBeforeAndAfterFormAsk : Prop := fnReadRequestBeforeAndAfterRow.holds Tryf.pinned (OpenSpec.ofChange fnReadRequestBeforeAndAfterSpec)

/-- ITS FALSE NEIGHBOUR: 'it returns false'. Refute it at one input. -/
def fnReadRequestBeforeAndAfterWrong : ChangeSpec := { name := "fnReadRequestBeforeAndAfter", fn := fun _ => fun
  | [d1, d2, d3] => { results := [.lit (.bool false)], args := [d1, d2, d3] }
  | _ => none }
def FnReadRequestBeforeAndAfterWrongFormAsk : Prop := fnReadRequestBeforeAndAfterRow.holds Tryf.pinned (OpenSpec.ofChange fnReadRequestBeforeAndAfterWrong)

/-- 'zzlaws_internal_register_b1.FnReadRequestInsertOne': WHATEVER THE INPUT: true; the input reads as it did. -/
def fnReadRequestInsertOneSpec : ChangeSpec := { name := "fnReadRequestInsertOne", fn := fun _ => fun
  | [d1, d2, d3, d4, d5] => { results := [.lit (.bool true)], args := [d1, d2, d3, d4, d5] }
  | _ => none }
def fnReadRequestInsertOneRow : OpenClaim := { program := "qxb6615539afmt", sum := "d5419e14b427961623a0a8ced88ca5066721edd7fe39ff301fd9a337fe40dd4b", func := "example.com/quorate/quorate/zzlaws_internal_register_b1.FnReadRequestInsertOne", spec := "fnReadRequestInsertOne", stops := ["fmt.errorf"], inPlace := ["fmt.errorf", "internal/bytealg.Compare"], unfollowed := true, recurses := true, apart := false }
/-- NO THEOREM (fmt's text is open here; it may be false): for the released tool's asking of the row's closed facts alone. THE STATEMENT IS 'FnReadRequestInsertOneToldSaid' (Qxb6615539aFmtCards.lean). -/
def FnReadRequestInsertOneFormAsk : Prop := fnReadRequestInsertOneRow.holds Tryf.pinned (OpenSpec.ofChange fnReadRequestInsertOneSpec)

/-- ITS FALSE NEIGHBOUR: 'it returns false'. Refute it at one input. -/
def fnReadRequestInsertOneWrong : ChangeSpec := { name := "fnReadRequestInsertOne", fn := fun _ => fun
  | [d1, d2, d3, d4, d5] => { results := [.lit (.bool false)], args := [d1, d2, d3, d4, d5] }
  | _ => none }
def FnReadRequestInsertOneWrongFormAsk : Prop := fnReadRequestInsertOneRow.holds Tryf.pinned (OpenSpec.ofChange fnReadRequestInsertOneWrong)

/-- 'zzlaws_internal_register_b1.FnReadCompleteAnswersOnce': WHATEVER THE INPUT: true; the input reads as it did. -/
def fnReadCompleteAnswersOnceSpec : ChangeSpec := { name := "fnReadCompleteAnswersOnce", fn := fun _ => fun
  | [d1, d2, d3, d4] => { results := [.lit (.bool true)], args := [d1, d2, d3, d4] }
  | _ => none }
def fnReadCompleteAnswersOnceRow : OpenClaim := { program := "qxb6615539afmt", sum := "d5419e14b427961623a0a8ced88ca5066721edd7fe39ff301fd9a337fe40dd4b", func := "example.com/quorate/quorate/zzlaws_internal_register_b1.FnReadCompleteAnswersOnce", spec := "fnReadCompleteAnswersOnce", stops := ["fmt.errorf"], inPlace := ["fmt.errorf", "internal/bytealg.Compare"], unfollowed := true, recurses := true, apart := false }
/-- NO THEOREM (fmt's text is open here; it may be false): for the released tool's asking of the row's closed facts alone. THE STATEMENT IS 'FnReadCompleteAnswersOnceToldSaid' (Qxb6615539aFmtCards.lean). -/
def FnReadCompleteAnswersOnceFormAsk : Prop := fnReadCompleteAnswersOnceRow.holds Tryf.pinned (OpenSpec.ofChange fnReadCompleteAnswersOnceSpec)

/-- ITS FALSE NEIGHBOUR: 'it returns false'. Refute it at one input. -/
def fnReadCompleteAnswersOnceWrong : ChangeSpec := { name := "fnReadCompleteAnswersOnce", fn := fun _ => fun
  | [d1, d2, d3, d4] => { results := [.lit (.bool false)], args := [d1, d2, d3, d4] }
  | _ => none }
def FnReadCompleteAnswersOnceWrongFormAsk : Prop := fnReadCompleteAnswersOnceRow.holds Tryf.pinned (OpenSpec.ofChange fnReadCompleteAnswersOnceWrong)

/-- 'zzlaws_internal_register_b1.FnReadCompleteModeOnlyRounds': WHATEVER THE INPUT: true; the input reads as it did. -/
def fnReadCompleteModeOnlyRoundsSpec : ChangeSpec := { name := "fnReadCompleteModeOnlyRounds", fn := fun _ => fun
  | [d1, d2, d3] => { results := [.lit (.bool true)], args := [d1, d2, d3] }
  | _ => none }
def fnReadCompleteModeOnlyRoundsRow : OpenClaim := { program := "qxb6615539afmt", sum := "d5419e14b427961623a0a8ced88ca5066721edd7fe39ff301fd9a337fe40dd4b", func := "example.com/quorate/quorate/zzlaws_internal_register_b1.FnReadCompleteModeOnlyRounds", spec := "fnReadCompleteModeOnlyRounds", stops := ["fmt.errorf"], inPlace := ["fmt.errorf", "internal/bytealg.Compare"], unfollowed := true, recurses := true, apart := false }
/-- NO THEOREM (fmt's text is open here; it may be false): for the released tool's asking of the row's closed facts alone. THE STATEMENT IS 'FnReadCompleteModeOnlyRoundsToldSaid' (Qxb6615539aFmtCards.lean). -/
def FnReadCompleteModeOnlyRoundsFormAsk : Prop := fnReadCompleteModeOnlyRoundsRow.holds Tryf.pinned (OpenSpec.ofChange fnReadCompleteModeOnlyRoundsSpec)

/-- ITS FALSE NEIGHBOUR: 'it returns false'. Refute it at one input. -/
def fnReadCompleteModeOnlyRoundsWrong : ChangeSpec := { name := "fnReadCompleteModeOnlyRounds", fn := fun _ => fun
  | [d1, d2, d3] => { results := [.lit (.bool false)], args := [d1, d2, d3] }
  | _ => none }
def FnReadCompleteModeOnlyRoundsWrongFormAsk : Prop := fnReadCompleteModeOnlyRoundsRow.holds Tryf.pinned (OpenSpec.ofChange fnReadCompleteModeOnlyRoundsWrong)

end Rows
end Go.Proofs.Qxb6615539aFmt
