/-
  DERIVED. GIVEN WITH THE SEED: THE CARDS: each row of Qxb6613412aFmtRows.lean that lists a variable, with what it lists TIED to the program's text (the seventh form; the later family's looks); each row that meets fmt, with fmt's text TOLD by the authors' own Lean function (tested against real Go, not proved from fmt's source: count such statements apart). THE CARD IS WHAT COUNTS. Prove the row's statement (the work); the ties are given (Qxb6613412aFmtTie.lean); close each card by the builder's one call (the guide's Derived/Test/ToyasCard.lean, 'card_holds'). Laid BY PROGRAM, IN A SANDBOX (cutbox-door.mjs). By AI agents, Wed Nov 11 2026. No macro, syntax, notation, axiom, sorry.
-/
import Derived.Test.Qxb6613412aFmtRows
import GoSem.ClaimSeven
namespace Go.Proofs.Qxb6613412aFmt
namespace Rows

/-- THE TOLD AND TIED CARD OF 'zzlaws_root_b1.FnRefuseFrameOfJoinedReason'. -/
def fnRefuseFrameOfJoinedReasonCard : Claim7 := { stood := { row := fnRefuseFrameOfJoinedReasonRow, standIns := [], harness := (true, "86f4a8cbdd0187071167fffd2c044ed3c48e6e49dab3513634f17e9e0c40c511"), looks := true }, told := true, laidByText := true, laidKinds := [.sentinel], laidTests := true, laidLooks := .later, goes := false }
def FnRefuseFrameOfJoinedReasonToldSaid : Prop := Claim7.holds Tryf.pinned (.plain (OpenSpec.ofChange fnRefuseFrameOfJoinedReasonSpec)) fnRefuseFrameOfJoinedReasonCard
/-- ITS FALSE NEIGHBOUR. Refute it at one input. -/
def FnRefuseFrameOfJoinedReasonToldWrongFalsely : Prop := Claim7.holds Tryf.pinned (.plain (OpenSpec.ofChange fnRefuseFrameOfJoinedReasonWrong)) fnRefuseFrameOfJoinedReasonCard

/-- THE TOLD AND TIED CARD OF 'zzlaws_root_b1.FnRefuseOfItsOwnReasonIsSame'. -/
def fnRefuseOfItsOwnReasonIsSameCard : Claim7 := { stood := { row := fnRefuseOfItsOwnReasonIsSameRow, standIns := [], harness := (true, "86f4a8cbdd0187071167fffd2c044ed3c48e6e49dab3513634f17e9e0c40c511"), looks := true }, told := true, laidByText := true, laidKinds := [.sentinel], laidTests := true, laidLooks := .later, goes := false }
def FnRefuseOfItsOwnReasonIsSameToldSaid : Prop := Claim7.holds Tryf.pinned (.plain (OpenSpec.ofChange fnRefuseOfItsOwnReasonIsSameSpec)) fnRefuseOfItsOwnReasonIsSameCard
/-- ITS FALSE NEIGHBOUR. Refute it at one input. -/
def FnRefuseOfItsOwnReasonIsSameToldWrongFalsely : Prop := Claim7.holds Tryf.pinned (.plain (OpenSpec.ofChange fnRefuseOfItsOwnReasonIsSameWrong)) fnRefuseOfItsOwnReasonIsSameCard
end Rows
end Go.Proofs.Qxb6613412aFmt
