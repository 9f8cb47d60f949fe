/-
  No cell of these rows narrows 'for every input' (looked for: loops, veiled, ifaces, maps, wideKeys, modest, calm, conditions, laid).
  DERIVED. THE GIVEN ROWS OF THIS SEAT. 1 by the template 'for every input the law returns true; each argument reads behind the call as it read before'; 0 by the template 'total and deterministic' (their statements: Qxb6613447aTotals.lean).
  GIVEN WITH THE SEED: the statements are not yours to turn. If you find one false, say at which input.
  Laid BY PROGRAM, IN A SANDBOX (cutbox-rows.mjs): the forced cells as the released guide's own fill.sh prints them over the translation 87f8b0a6a9d74f7a… (all of the seat's roots in one cut). By AI agents, Wed Nov 11 2026. No macro, syntax, notation, axiom, sorry.
-/
import Derived.Test.Qxb6613447aChecked
import GoSem.Claim
import GoSem.ClaimJoined
import GoSem.ClaimMapViews
import Derived.JoinedTies
import Derived.KernelRfl
namespace Go.Proofs.Qxb6613447a
/- THE CELL 'sum', in the pinned program and in every row, IS THE sha256 OF THE DUMP (.gsa) THAT Qxb6613447aProg.lean LOADS. Nothing in Lean hashes anything: it is a label: what it is worth is what the hold of that sum in a sandbox is worth. -/
noncomputable def Try.pinned : Pinned := { name := "qxb6613447a", sum := "87f8b0a6a9d74f7a468f490d96be57edd726a301539e113cfb662e652678775e", checked := Try.checked }
namespace Rows
def none {H : Type} : Left H := { results := [], args := [] }

/-- 'zzlaws_internal_entry_b1.FnNamesInsertOneMember': WHATEVER THE INPUT: true; the input reads as it did. -/
def fnNamesInsertOneMemberSpec : ChangeSpec := { name := "fnNamesInsertOneMember", fn := fun _ => fun
  | [d1, d2, d3, d4] => { results := [.lit (.bool true)], args := [d1, d2, d3, d4] }
  | _ => none }
def fnNamesInsertOneMemberRow : OpenClaim := { program := "qxb6613447a", sum := "87f8b0a6a9d74f7a468f490d96be57edd726a301539e113cfb662e652678775e", func := "example.com/ledgerline/ledgerline/zzlaws_internal_entry_b1.FnNamesInsertOneMember", spec := "fnNamesInsertOneMember", apart := false }
def FnNamesInsertOneMemberSaid : Prop := fnNamesInsertOneMemberRow.holds Try.pinned (OpenSpec.ofChange fnNamesInsertOneMemberSpec)

/-- ITS FALSE NEIGHBOUR: 'it returns false'. Refute it at one input. -/
def fnNamesInsertOneMemberWrong : ChangeSpec := { name := "fnNamesInsertOneMember", fn := fun _ => fun
  | [d1, d2, d3, d4] => { results := [.lit (.bool false)], args := [d1, d2, d3, d4] }
  | _ => none }
def FnNamesInsertOneMemberWrongFalsely : Prop := fnNamesInsertOneMemberRow.holds Try.pinned (OpenSpec.ofChange fnNamesInsertOneMemberWrong)

end Rows
end Go.Proofs.Qxb6613447a
