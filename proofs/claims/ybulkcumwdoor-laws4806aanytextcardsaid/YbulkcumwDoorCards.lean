/-
  DERIVED. GIVEN WITH THE SEED: THE CARDS: each row of YbulkcumwDoorRows.lean that lists a variable, with what it lists TIED to the program's text (the seventh form; the later family's looks); each row that meets fmt, with fmt's text TOLD by the authors' own Lean function (tested against real Go, not proved from fmt's source: count such statements apart). THE CARD IS WHAT COUNTS. Prove the row's statement (the work); the ties are given (YbulkcumwDoorTie.lean); close each card by the builder's one call (the guide's Derived/Test/ToyasCard.lean, 'card_holds'). Laid BY PROGRAM, IN A SANDBOX (cutbox-door.mjs). By AI agents, Wed Nov 11 2026. No macro, syntax, notation, axiom, sorry.
-/
import Derived.Test.YbulkcumwDoorRows
import GoSem.ClaimSeven
namespace Go.Proofs.YbulkcumwDoor
namespace Rows

/-- THE TIED CARD OF 'sekond.LawS4806AAnyText'. -/
def lawS4806AAnyTextCard : Claim7 := { stood := { row := lawS4806AAnyTextRow, standIns := [], harness := (true, "77676282be3e183c2257d32000672f7966c946bc3c361563dbe973851d800864"), looks := false }, kinds := [], alts := [], laidByText := true, laidKinds := [.data], laidTests := true, laidLooks := .later }
def LawS4806AAnyTextCardSaid : Prop := Claim7.holds Ybad.pinned (.plain (OpenSpec.ofChange lawS4806AAnyTextSpec)) lawS4806AAnyTextCard
end Rows
end Go.Proofs.YbulkcumwDoor
