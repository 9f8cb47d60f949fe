/-
  NARROWER THAN 'FOR EVERY INPUT', by the rows' own cells (each row's printed sentence says how): FnRefuseFrameOfJoinedReason: laid · FnRefuseOfItsOwnReasonIsSame: laid.
  DERIVED. THE GIVEN ROWS OF THIS SEAT. 2 by the template 'for every input the law returns true; each argument reads behind the call as it read before'; 0 by the template 'total and deterministic' (their statements: Qxb6613412aFmtTotals.lean).
  GIVEN WITH THE SEED: the statements are not yours to turn. If you find one false, say at which input.
  Laid BY PROGRAM, IN A SANDBOX (cutbox-rows.mjs): the forced cells as the released guide's own fill.sh prints them over the translation a154b3d315aa9099… (all of the seat's roots in one cut). By AI agents, Wed Nov 11 2026. No macro, syntax, notation, axiom, sorry.
-/
import Derived.Test.Qxb6613412aFmtChecked
import GoSem.Claim
import GoSem.ClaimJoined
import GoSem.ClaimMapViews
import Derived.JoinedTies
import Derived.KernelRfl
namespace Go.Proofs.Qxb6613412aFmt
/- THE CELL 'sum', in the pinned program and in every row, IS THE sha256 OF THE DUMP (.gsa) THAT Qxb6613412aFmtProg.lean LOADS. Nothing in Lean hashes anything: it is a label: what it is worth is what the hold of that sum in a sandbox is worth. -/
noncomputable def Tryf.pinned : Pinned := { name := "qxb6613412afmt", sum := "a154b3d315aa909925c4aeacf5225ee026a0fffb0b5a263e9e4e44e9b67d2b1c", checked := Tryf.checked }
namespace Rows
def none {H : Type} : Left H := { results := [], args := [] }

/- WHAT THE LISTED PACKAGE-LEVEL VARIABLES READ AS WHEN THE CALL BEGINS. Each datum BY PROGRAM (the guide's laid-datum.mjs) off the statement by which the dump's own 'gosem.cut.vars' lays the variable. In a bare row this is a premise. The card (Qxb6613412aFmtCards.lean) ties it to the program's text. -/
def laid_io_ErrShortWrite {H : Type} : DataW H := .iface "*errors.errorString" (.ptr (.agg [.lit (.string [115, 104, 111, 114, 116, 32, 119, 114, 105, 116, 101])]))

/-- 'zzlaws_root_b1.FnRefuseFrameOfJoinedReason': WHATEVER THE INPUT: true; the input reads as it did. -/
def fnRefuseFrameOfJoinedReasonSpec : ChangeSpec := { name := "fnRefuseFrameOfJoinedReason", fn := fun _ => fun
  | [d1, d2] => { results := [.lit (.bool true)], args := [d1, d2] }
  | _ => none }
def fnRefuseFrameOfJoinedReasonRow : OpenClaim := { program := "qxb6613412afmt", sum := "a154b3d315aa909925c4aeacf5225ee026a0fffb0b5a263e9e4e44e9b67d2b1c", func := "example.com/syncline/syncline/zzlaws_root_b1.FnRefuseFrameOfJoinedReason", spec := "fnRefuseFrameOfJoinedReason", stops := ["fmt.errorf, its operands' methods called", "fmt.Sprintf"], inPlace := ["fmt.errorf"], unfollowed := true, recurses := true, named := ["io.ErrShortWrite"], apart := false, laid := [("io.ErrShortWrite", laid_io_ErrShortWrite)] }
/-- NO THEOREM (fmt's text is open here; it may be false): for the released tool's asking of the row's closed facts alone. THE STATEMENT IS 'FnRefuseFrameOfJoinedReasonToldSaid' (Qxb6613412aFmtCards.lean). -/
def FnRefuseFrameOfJoinedReasonFormAsk : Prop := fnRefuseFrameOfJoinedReasonRow.holds Tryf.pinned (OpenSpec.ofChange fnRefuseFrameOfJoinedReasonSpec)

/-- ITS FALSE NEIGHBOUR: 'it returns false'. Refute it at one input. -/
def fnRefuseFrameOfJoinedReasonWrong : ChangeSpec := { name := "fnRefuseFrameOfJoinedReason", fn := fun _ => fun
  | [d1, d2] => { results := [.lit (.bool false)], args := [d1, d2] }
  | _ => none }
def FnRefuseFrameOfJoinedReasonWrongFormAsk : Prop := fnRefuseFrameOfJoinedReasonRow.holds Tryf.pinned (OpenSpec.ofChange fnRefuseFrameOfJoinedReasonWrong)

/-- 'zzlaws_root_b1.FnRefuseOfItsOwnReasonIsSame': WHATEVER THE INPUT: true; the input reads as it did. -/
def fnRefuseOfItsOwnReasonIsSameSpec : ChangeSpec := { name := "fnRefuseOfItsOwnReasonIsSame", fn := fun _ => fun
  | [d] => { results := [.lit (.bool true)], args := [d] }
  | _ => none }
def fnRefuseOfItsOwnReasonIsSameRow : OpenClaim := { program := "qxb6613412afmt", sum := "a154b3d315aa909925c4aeacf5225ee026a0fffb0b5a263e9e4e44e9b67d2b1c", func := "example.com/syncline/syncline/zzlaws_root_b1.FnRefuseOfItsOwnReasonIsSame", spec := "fnRefuseOfItsOwnReasonIsSame", stops := ["fmt.errorf, its operands' methods called", "fmt.Sprintf"], inPlace := ["fmt.errorf"], unfollowed := true, recurses := true, named := ["io.ErrShortWrite"], apart := false, laid := [("io.ErrShortWrite", laid_io_ErrShortWrite)] }
/-- NO THEOREM (fmt's text is open here; it may be false): for the released tool's asking of the row's closed facts alone. THE STATEMENT IS 'FnRefuseOfItsOwnReasonIsSameToldSaid' (Qxb6613412aFmtCards.lean). -/
def FnRefuseOfItsOwnReasonIsSameFormAsk : Prop := fnRefuseOfItsOwnReasonIsSameRow.holds Tryf.pinned (OpenSpec.ofChange fnRefuseOfItsOwnReasonIsSameSpec)

/-- ITS FALSE NEIGHBOUR: 'it returns false'. Refute it at one input. -/
def fnRefuseOfItsOwnReasonIsSameWrong : ChangeSpec := { name := "fnRefuseOfItsOwnReasonIsSame", fn := fun _ => fun
  | [d] => { results := [.lit (.bool false)], args := [d] }
  | _ => none }
def FnRefuseOfItsOwnReasonIsSameWrongFormAsk : Prop := fnRefuseOfItsOwnReasonIsSameRow.holds Tryf.pinned (OpenSpec.ofChange fnRefuseOfItsOwnReasonIsSameWrong)

end Rows
end Go.Proofs.Qxb6613412aFmt
