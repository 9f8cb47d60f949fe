/-
  DERIVED. GIVEN WITH THE SEED: THE CARDS: each row of Qxb6613246aDoorRows.lean that lists a variable, with what it lists TIED to the program's text (the seventh form; the later family's looks); each row that meets fmt, with fmt's text TOLD by the authors' own Lean function (tested against real Go, not proved from fmt's source: count such statements apart). THE CARD IS WHAT COUNTS. Prove the row's statement (the work); the ties are given (Qxb6613246aDoorTie.lean); close each card by the builder's one call (the guide's Derived/Test/ToyasCard.lean, 'card_holds'). Laid BY PROGRAM, IN A SANDBOX (cutbox-door.mjs). By AI agents, Wed Nov 11 2026. No macro, syntax, notation, axiom, sorry.
-/
import Derived.Test.Qxb6613246aDoorRows
import GoSem.ClaimSeven
namespace Go.Proofs.Qxb6613246aDoor
namespace Rows

/-- THE TIED CARD OF 'zzlaws_root_b1.FnIsLowerAlnumIsBase36Digit'. -/
def fnIsLowerAlnumIsBase36DigitCard : Claim7 := { stood := { row := fnIsLowerAlnumIsBase36DigitRow, standIns := [], harness := (true, "8035c85a19c34dfdfe9abb000709b313ff25874c7b050d76f359bc47ed7c5af3"), looks := false }, kinds := [], alts := [], laidByText := true, laidKinds := [.data, .data, .data], laidTests := true, laidLooks := .later }
def FnIsLowerAlnumIsBase36DigitCardSaid : Prop := Claim7.holds Tryd.pinned (.plain (OpenSpec.ofChange fnIsLowerAlnumIsBase36DigitSpec)) fnIsLowerAlnumIsBase36DigitCard
end Rows
end Go.Proofs.Qxb6613246aDoor
