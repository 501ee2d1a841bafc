/-
  No cell of these rows narrows 'for every input' (looked for: loops, veiled, ifaces, maps, wideKeys, modest, calm, conditions, laid).
  DERIVED. THE GIVEN ROWS OF THIS SEAT. 3 by the template 'for every input the law returns true; each argument reads behind the call as it read before'; 0 by the template 'total and deterministic' (their statements: Qxb6604527aFmtTotals.lean).
  GIVEN WITH THE SEED: the statements are not yours to turn. If you find one false, say at which input.
  Laid BY PROGRAM, IN A SANDBOX (cutbox-rows.mjs): the forced cells as the released guide's own fill.sh prints them over the translation 817888b90fad93b9… (all of the seat's roots in one cut). By AI agents, Wed Nov 11 2026. No macro, syntax, notation, axiom, sorry.
-/
import Derived.Test.Qxb6604527aFmtChecked
import GoSem.Claim
import GoSem.ClaimJoined
import GoSem.ClaimMapViews
import Derived.JoinedTies
import Derived.KernelRfl
namespace Go.Proofs.Qxb6604527aFmt
/- THE CELL 'sum', in the pinned program and in every row, IS THE sha256 OF THE DUMP (.gsa) THAT Qxb6604527aFmtProg.lean LOADS. Nothing in Lean hashes anything: it is a label: what it is worth is what the hold of that sum in a sandbox is worth. -/
noncomputable def Tryf.pinned : Pinned := { name := "qxb6604527afmt", sum := "817888b90fad93b96e5b7bafc9ee8956c4431076cf7bb15a6fd46f5249253c31", checked := Tryf.checked }
namespace Rows
def none {H : Type} : Left H := { results := [], args := [] }

/-- 'zzlaws_root_b1.FnNewCoordinatorsInitialState': WHATEVER THE INPUT: true; the input reads as it did. -/
def fnNewCoordinatorsInitialStateSpec : ChangeSpec := { name := "fnNewCoordinatorsInitialState", fn := fun _ => fun
  | [d1, d2, d3, d4] => { results := [.lit (.bool true)], args := [d1, d2, d3, d4] }
  | _ => none }
def fnNewCoordinatorsInitialStateRow : OpenClaim := { program := "qxb6604527afmt", sum := "817888b90fad93b96e5b7bafc9ee8956c4431076cf7bb15a6fd46f5249253c31", func := "example.com/tallyround/tallyround/zzlaws_root_b1.FnNewCoordinatorsInitialState", spec := "fnNewCoordinatorsInitialState", stops := ["fmt.errorf", "fmt.Sprintf"], inPlace := ["fmt.Sprintf"], unfollowed := true, recurses := true, apart := false }
/-- NO THEOREM (fmt's text is open here; it may be false): for the released tool's asking of the row's closed facts alone. THE STATEMENT IS 'FnNewCoordinatorsInitialStateToldSaid' (Qxb6604527aFmtCards.lean). -/
def FnNewCoordinatorsInitialStateFormAsk : Prop := fnNewCoordinatorsInitialStateRow.holds Tryf.pinned (OpenSpec.ofChange fnNewCoordinatorsInitialStateSpec)

/-- ITS FALSE NEIGHBOUR: 'it returns false'. Refute it at one input. -/
def fnNewCoordinatorsInitialStateWrong : ChangeSpec := { name := "fnNewCoordinatorsInitialState", fn := fun _ => fun
  | [d1, d2, d3, d4] => { results := [.lit (.bool false)], args := [d1, d2, d3, d4] }
  | _ => none }
def FnNewCoordinatorsInitialStateWrongFormAsk : Prop := fnNewCoordinatorsInitialStateRow.holds Tryf.pinned (OpenSpec.ofChange fnNewCoordinatorsInitialStateWrong)

/-- 'zzlaws_root_b1.FnLastRoundBoundsValidRounds': WHATEVER THE INPUT: true; the input reads as it did. -/
def fnLastRoundBoundsValidRoundsSpec : ChangeSpec := { name := "fnLastRoundBoundsValidRounds", fn := fun _ => fun
  | [d1, d2, d3, d4, d5] => { results := [.lit (.bool true)], args := [d1, d2, d3, d4, d5] }
  | _ => none }
def fnLastRoundBoundsValidRoundsRow : OpenClaim := { program := "qxb6604527afmt", sum := "817888b90fad93b96e5b7bafc9ee8956c4431076cf7bb15a6fd46f5249253c31", func := "example.com/tallyround/tallyround/zzlaws_root_b1.FnLastRoundBoundsValidRounds", spec := "fnLastRoundBoundsValidRounds", stops := ["fmt.errorf", "fmt.Sprintf"], inPlace := ["fmt.Sprintf", "fmt.errorf"], unfollowed := true, recurses := true, apart := false }
/-- NO THEOREM (fmt's text is open here; it may be false): for the released tool's asking of the row's closed facts alone. THE STATEMENT IS 'FnLastRoundBoundsValidRoundsToldSaid' (Qxb6604527aFmtCards.lean). -/
def FnLastRoundBoundsValidRoundsFormAsk : Prop := fnLastRoundBoundsValidRoundsRow.holds Tryf.pinned (OpenSpec.ofChange fnLastRoundBoundsValidRoundsSpec)

/-- ITS FALSE NEIGHBOUR: 'it returns false'. Refute it at one input. -/
def fnLastRoundBoundsValidRoundsWrong : ChangeSpec := { name := "fnLastRoundBoundsValidRounds", fn := fun _ => fun
  | [d1, d2, d3, d4, d5] => { results := [.lit (.bool false)], args := [d1, d2, d3, d4, d5] }
  | _ => none }
def FnLastRoundBoundsValidRoundsWrongFormAsk : Prop := fnLastRoundBoundsValidRoundsRow.holds Tryf.pinned (OpenSpec.ofChange fnLastRoundBoundsValidRoundsWrong)

/-- 'zzlaws_root_b1.FnMRTValidateInstanceFree': WHATEVER THE INPUT: true; the input reads as it did. -/
def fnMRTValidateInstanceFreeSpec : ChangeSpec := { name := "fnMRTValidateInstanceFree", fn := fun _ => fun
  | [d1, d2, d3, d4, d5, d6, d7, d8, d9, d10, d11] => { results := [.lit (.bool true)], args := [d1, d2, d3, d4, d5, d6, d7, d8, d9, d10, d11] }
  | _ => none }
def fnMRTValidateInstanceFreeRow : OpenClaim := { program := "qxb6604527afmt", sum := "817888b90fad93b96e5b7bafc9ee8956c4431076cf7bb15a6fd46f5249253c31", func := "example.com/tallyround/tallyround/zzlaws_root_b1.FnMRTValidateInstanceFree", spec := "fnMRTValidateInstanceFree", stops := ["fmt.errorf", "fmt.Sprintf"], inPlace := ["fmt.Sprintf", "slices.overlaps[example.com/tallyround/tallyround.benOrCount]", "fmt.errorf"], unfollowed := true, recurses := true, apart := false }
/-- NO THEOREM (fmt's text is open here; it may be false): for the released tool's asking of the row's closed facts alone. THE STATEMENT IS 'FnMRTValidateInstanceFreeToldSaid' (Qxb6604527aFmtCards.lean). -/
def FnMRTValidateInstanceFreeFormAsk : Prop := fnMRTValidateInstanceFreeRow.holds Tryf.pinned (OpenSpec.ofChange fnMRTValidateInstanceFreeSpec)

/-- ITS FALSE NEIGHBOUR: 'it returns false'. Refute it at one input. -/
def fnMRTValidateInstanceFreeWrong : ChangeSpec := { name := "fnMRTValidateInstanceFree", fn := fun _ => fun
  | [d1, d2, d3, d4, d5, d6, d7, d8, d9, d10, d11] => { results := [.lit (.bool false)], args := [d1, d2, d3, d4, d5, d6, d7, d8, d9, d10, d11] }
  | _ => none }
def FnMRTValidateInstanceFreeWrongFormAsk : Prop := fnMRTValidateInstanceFreeRow.holds Tryf.pinned (OpenSpec.ofChange fnMRTValidateInstanceFreeWrong)

end Rows
end Go.Proofs.Qxb6604527aFmt
