/-
  No cell of these rows narrows 'for every input' (looked for: loops, veiled, ifaces, maps, wideKeys, modest, calm, conditions, laid).
  DERIVED. THE GIVEN ROWS OF THIS SEAT. 1 by the template 'for every input the law returns true; each argument reads behind the call as it read before'; 0 by the template 'total and deterministic' (their statements: Qxb6613591aTotals.lean).
  GIVEN WITH THE SEED: the statements are not yours to turn. If you find one false, say at which input.
  Laid BY PROGRAM, IN A SANDBOX (cutbox-rows.mjs): the forced cells as the released guide's own fill.sh prints them over the translation aad460a35926aaf2… (all of the seat's roots in one cut). By AI agents, Wed Nov 11 2026. No macro, syntax, notation, axiom, sorry.
-/
import Derived.Test.Qxb6613591aChecked
import GoSem.Claim
import GoSem.ClaimJoined
import GoSem.ClaimMapViews
import Derived.JoinedTies
import Derived.KernelRfl
namespace Go.Proofs.Qxb6613591a
/- THE CELL 'sum', in the pinned program and in every row, IS THE sha256 OF THE DUMP (.gsa) THAT Qxb6613591aProg.lean LOADS. Nothing in Lean hashes anything: it is a label: what it is worth is what the hold of that sum in a sandbox is worth. -/
noncomputable def Try.pinned : Pinned := { name := "qxb6613591a", sum := "aad460a35926aaf229fe773f03050cd911036eb6659c4d749752f8544d2cbbf1", checked := Try.checked }
namespace Rows
def none {H : Type} : Left H := { results := [], args := [] }

/-- 'zzlaws_root_b1.FnFieldWriterFinishSingleChange': WHATEVER THE INPUT: true; the input reads as it did. -/
def fnFieldWriterFinishSingleChangeSpec : ChangeSpec := { name := "fnFieldWriterFinishSingleChange", fn := fun _ => fun
  | [d1, d2] => { results := [.lit (.bool true)], args := [d1, d2] }
  | _ => none }
def fnFieldWriterFinishSingleChangeRow : OpenClaim := { program := "qxb6613591a", sum := "aad460a35926aaf229fe773f03050cd911036eb6659c4d749752f8544d2cbbf1", func := "example.com/orbitline/orbitline/zzlaws_root_b1.FnFieldWriterFinishSingleChange", spec := "fnFieldWriterFinishSingleChange", apart := false }
def FnFieldWriterFinishSingleChangeSaid : Prop := fnFieldWriterFinishSingleChangeRow.holds Try.pinned (OpenSpec.ofChange fnFieldWriterFinishSingleChangeSpec)

/-- ITS FALSE NEIGHBOUR: 'it returns false'. Refute it at one input. -/
def fnFieldWriterFinishSingleChangeWrong : ChangeSpec := { name := "fnFieldWriterFinishSingleChange", fn := fun _ => fun
  | [d1, d2] => { results := [.lit (.bool false)], args := [d1, d2] }
  | _ => none }
def FnFieldWriterFinishSingleChangeWrongFalsely : Prop := fnFieldWriterFinishSingleChangeRow.holds Try.pinned (OpenSpec.ofChange fnFieldWriterFinishSingleChangeWrong)

end Rows
end Go.Proofs.Qxb6613591a
