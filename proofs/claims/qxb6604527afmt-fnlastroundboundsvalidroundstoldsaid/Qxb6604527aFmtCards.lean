/-
  DERIVED. GIVEN WITH THE SEED: THE CARDS: each row of Qxb6604527aFmtRows.lean that lists a variable, with what it lists TIED to the program's text (the seventh form; the later family's looks); each row that meets fmt, with fmt's text TOLD by the authors' own Lean function (tested against real Go, not proved from fmt's source: count such statements apart). THE CARD IS WHAT COUNTS. Prove the row's statement (the work); the ties are given (Qxb6604527aFmtTie.lean); close each card by the builder's one call (the guide's Derived/Test/ToyasCard.lean, 'card_holds'). Laid BY PROGRAM, IN A SANDBOX (cutbox-door.mjs). By AI agents, Wed Nov 11 2026. No macro, syntax, notation, axiom, sorry.
-/
import Derived.Test.Qxb6604527aFmtRows
import GoSem.ClaimSeven
namespace Go.Proofs.Qxb6604527aFmt
namespace Rows

/-- THE TOLD CARD OF 'zzlaws_root_b1.FnNewCoordinatorsInitialState'. -/
def fnNewCoordinatorsInitialStateCard : Claim7 := { stood := { row := fnNewCoordinatorsInitialStateRow, standIns := [], harness := (true, "c81080c3ece869ff6a0d092aa4aba9824c3af9c505dc343319ffa8312e6e8759"), looks := false }, told := true, goes := false }
def FnNewCoordinatorsInitialStateToldSaid : Prop := Claim7.holds Tryf.pinned (.plain (OpenSpec.ofChange fnNewCoordinatorsInitialStateSpec)) fnNewCoordinatorsInitialStateCard
/-- ITS FALSE NEIGHBOUR. Refute it at one input. -/
def FnNewCoordinatorsInitialStateToldWrongFalsely : Prop := Claim7.holds Tryf.pinned (.plain (OpenSpec.ofChange fnNewCoordinatorsInitialStateWrong)) fnNewCoordinatorsInitialStateCard

/-- THE TOLD CARD OF 'zzlaws_root_b1.FnLastRoundBoundsValidRounds'. -/
def fnLastRoundBoundsValidRoundsCard : Claim7 := { stood := { row := fnLastRoundBoundsValidRoundsRow, standIns := [], harness := (true, "c81080c3ece869ff6a0d092aa4aba9824c3af9c505dc343319ffa8312e6e8759"), looks := false }, told := true, goes := false }
def FnLastRoundBoundsValidRoundsToldSaid : Prop := Claim7.holds Tryf.pinned (.plain (OpenSpec.ofChange fnLastRoundBoundsValidRoundsSpec)) fnLastRoundBoundsValidRoundsCard
/-- ITS FALSE NEIGHBOUR. Refute it at one input. -/
def FnLastRoundBoundsValidRoundsToldWrongFalsely : Prop := Claim7.holds Tryf.pinned (.plain (OpenSpec.ofChange fnLastRoundBoundsValidRoundsWrong)) fnLastRoundBoundsValidRoundsCard

/-- THE TOLD CARD OF 'zzlaws_root_b1.FnMRTValidateInstanceFree'. -/
def fnMRTValidateInstanceFreeCard : Claim7 := { stood := { row := fnMRTValidateInstanceFreeRow, standIns := [], harness := (true, "c81080c3ece869ff6a0d092aa4aba9824c3af9c505dc343319ffa8312e6e8759"), looks := false }, told := true, goes := false }
def FnMRTValidateInstanceFreeToldSaid : Prop := Claim7.holds Tryf.pinned (.plain (OpenSpec.ofChange fnMRTValidateInstanceFreeSpec)) fnMRTValidateInstanceFreeCard
/-- ITS FALSE NEIGHBOUR. Refute it at one input. -/
def FnMRTValidateInstanceFreeToldWrongFalsely : Prop := Claim7.holds Tryf.pinned (.plain (OpenSpec.ofChange fnMRTValidateInstanceFreeWrong)) fnMRTValidateInstanceFreeCard
end Rows
end Go.Proofs.Qxb6604527aFmt
