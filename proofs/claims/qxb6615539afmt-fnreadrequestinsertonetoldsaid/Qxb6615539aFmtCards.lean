/-
  DERIVED. GIVEN WITH THE SEED: THE CARDS: each row of Qxb6615539aFmtRows.lean that lists a variable, with what it lists TIED to the program's text (the seventh form; the later family's looks); each row that meets fmt, with fmt's text TOLD by the authors' own Lean function (tested against real Go, not proved from fmt's source: count such statements apart). THE CARD IS WHAT COUNTS. Prove the row's statement (the work); the ties are given (Qxb6615539aFmtTie.lean); close each card by the builder's one call (the guide's Derived/Test/ToyasCard.lean, 'card_holds'). Laid BY PROGRAM, IN A SANDBOX (cutbox-door.mjs). By AI agents, Wed Nov 11 2026. No macro, syntax, notation, axiom, sorry.
-/
import Derived.Test.Qxb6615539aFmtRows
import GoSem.ClaimSeven
namespace Go.Proofs.Qxb6615539aFmt
namespace Rows

/-- THE TOLD CARD OF 'zzlaws_internal_register_b1.FnReadRequestBeforeAndAfter'. -/
def fnReadRequestBeforeAndAfterCard : Claim7 := { stood := { row := fnReadRequestBeforeAndAfterRow, standIns := [], harness := (true, "dc5c3005185bcdf281ee5f7456eaf48558e7015e7e8bfa762c4c92762320bca6"), looks := false }, told := true, goes := false }
def FnReadRequestBeforeAndAfterToldSaid : Prop := Claim7.holds Tryf.pinned (.plain (OpenSpec.ofChange fnReadRequestBeforeAndAfterSpec)) fnReadRequestBeforeAndAfterCard
/-- ITS FALSE NEIGHBOUR. Refute it at one input. -/
def FnReadRequestBeforeAndAfterToldWrongFalsely : Prop := Claim7.holds Tryf.pinned (.plain (OpenSpec.ofChange fnReadRequestBeforeAndAfterWrong)) fnReadRequestBeforeAndAfterCard

/-- THE TOLD CARD OF 'zzlaws_internal_register_b1.FnReadRequestInsertOne'. -/
def fnReadRequestInsertOneCard : Claim7 := { stood := { row := fnReadRequestInsertOneRow, standIns := [], harness := (true, "dc5c3005185bcdf281ee5f7456eaf48558e7015e7e8bfa762c4c92762320bca6"), looks := false }, told := true, goes := false }
def FnReadRequestInsertOneToldSaid : Prop := Claim7.holds Tryf.pinned (.plain (OpenSpec.ofChange fnReadRequestInsertOneSpec)) fnReadRequestInsertOneCard
/-- ITS FALSE NEIGHBOUR. Refute it at one input. -/
def FnReadRequestInsertOneToldWrongFalsely : Prop := Claim7.holds Tryf.pinned (.plain (OpenSpec.ofChange fnReadRequestInsertOneWrong)) fnReadRequestInsertOneCard

/-- THE TOLD CARD OF 'zzlaws_internal_register_b1.FnReadCompleteAnswersOnce'. -/
def fnReadCompleteAnswersOnceCard : Claim7 := { stood := { row := fnReadCompleteAnswersOnceRow, standIns := [], harness := (true, "dc5c3005185bcdf281ee5f7456eaf48558e7015e7e8bfa762c4c92762320bca6"), looks := false }, told := true, goes := false }
def FnReadCompleteAnswersOnceToldSaid : Prop := Claim7.holds Tryf.pinned (.plain (OpenSpec.ofChange fnReadCompleteAnswersOnceSpec)) fnReadCompleteAnswersOnceCard
/-- ITS FALSE NEIGHBOUR. Refute it at one input. -/
def FnReadCompleteAnswersOnceToldWrongFalsely : Prop := Claim7.holds Tryf.pinned (.plain (OpenSpec.ofChange fnReadCompleteAnswersOnceWrong)) fnReadCompleteAnswersOnceCard

/-- THE TOLD CARD OF 'zzlaws_internal_register_b1.FnReadCompleteModeOnlyRounds'. -/
def fnReadCompleteModeOnlyRoundsCard : Claim7 := { stood := { row := fnReadCompleteModeOnlyRoundsRow, standIns := [], harness := (true, "dc5c3005185bcdf281ee5f7456eaf48558e7015e7e8bfa762c4c92762320bca6"), looks := false }, told := true, goes := false }
def FnReadCompleteModeOnlyRoundsToldSaid : Prop := Claim7.holds Tryf.pinned (.plain (OpenSpec.ofChange fnReadCompleteModeOnlyRoundsSpec)) fnReadCompleteModeOnlyRoundsCard
/-- ITS FALSE NEIGHBOUR. Refute it at one input. -/
def FnReadCompleteModeOnlyRoundsToldWrongFalsely : Prop := Claim7.holds Tryf.pinned (.plain (OpenSpec.ofChange fnReadCompleteModeOnlyRoundsWrong)) fnReadCompleteModeOnlyRoundsCard
end Rows
end Go.Proofs.Qxb6615539aFmt
