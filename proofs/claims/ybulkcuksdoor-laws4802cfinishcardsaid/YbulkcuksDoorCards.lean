/-
  DERIVED. GIVEN WITH THE SEED: THE CARDS: each row of YbulkcuksDoorRows.lean that lists a variable, with what it lists TIED to the program's text (the seventh form; the later family's looks); each row that meets fmt, with fmt's text TOLD by the authors' own Lean function (tested against real Go, not proved from fmt's source: count such statements apart). THE CARD IS WHAT COUNTS. Prove the row's statement (the work); the ties are given (YbulkcuksDoorTie.lean); close each card by the builder's one call (the guide's Derived/Test/ToyasCard.lean, 'card_holds'). Laid BY PROGRAM, IN A SANDBOX (cutbox-door.mjs). By AI agents, Wed Nov 11 2026. No macro, syntax, notation, axiom, sorry.
-/
import Derived.Test.YbulkcuksDoorRows
import GoSem.ClaimSeven
namespace Go.Proofs.YbulkcuksDoor
namespace Rows

/-- THE TIED CARD OF 'holdfast.LawS4802CFinish'. -/
def lawS4802CFinishCard : Claim7 := { stood := { row := lawS4802CFinishRow, standIns := [], harness := (true, "807c75721a8d2d8cb8e54b49fb9fe9039c0b6d142bf3296df4e28d1b4557713c"), looks := true }, kinds := [], alts := [], laidByText := true, laidKinds := [.data], laidTests := true, laidLooks := .later }
def LawS4802CFinishCardSaid : Prop := Claim7.holds Ybad.pinned (.plain (OpenSpec.ofChange lawS4802CFinishSpec)) lawS4802CFinishCard

/-- THE TIED CARD OF 'holdfast.LawS4802CRefuse'. -/
def lawS4802CRefuseCard : Claim7 := { stood := { row := lawS4802CRefuseRow, standIns := [], harness := (true, "807c75721a8d2d8cb8e54b49fb9fe9039c0b6d142bf3296df4e28d1b4557713c"), looks := true }, kinds := [], alts := [], laidByText := true, laidKinds := [.data], laidTests := true, laidLooks := .later }
def LawS4802CRefuseCardSaid : Prop := Claim7.holds Ybad.pinned (.plain (OpenSpec.ofChange lawS4802CRefuseSpec)) lawS4802CRefuseCard
end Rows
end Go.Proofs.YbulkcuksDoor
