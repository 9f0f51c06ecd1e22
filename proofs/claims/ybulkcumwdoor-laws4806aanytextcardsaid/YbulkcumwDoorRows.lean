/-
  NARROWER THAN 'FOR EVERY INPUT', by the rows' own cells (each row's printed sentence says how): LawS4806AAnyText: laid.
  DERIVED. THE GIVEN ROWS OF THIS SEAT. 1 by the template 'for every input the law returns true; each argument reads behind the call as it read before'; 0 by the template 'total and deterministic' (their statements: YbulkcumwDoorTotals.lean).
  GIVEN WITH THE SEED: the statements are not yours to turn. If you find one false, say at which input.
  Laid BY PROGRAM, IN A SANDBOX (cutbox-rows.mjs): the forced cells as the released guide's own fill.sh prints them over the translation 05548d189eac7a0e… (all of the seat's roots in one cut). By AI agents, Wed Nov 11 2026. No macro, syntax, notation, axiom, sorry.
-/
import Derived.Test.YbulkcumwDoorChecked
import GoSem.Claim
import GoSem.ClaimJoined
import GoSem.ClaimMapViews
import Derived.JoinedTies
import Derived.KernelRfl
namespace Go.Proofs.YbulkcumwDoor
/- THE CELL 'sum', in the pinned program and in every row, IS THE sha256 OF THE DUMP (.gsa) THAT YbulkcumwDoorProg.lean LOADS. Nothing in Lean hashes anything: it is a label: what it is worth is what the hold of that sum in a sandbox is worth. -/
noncomputable def Ybad.pinned : Pinned := { name := "ybulkcumwdoor", sum := "05548d189eac7a0e1f39300a36134a4e41d7248e6c026a61dfc5cb79c0b2d31a", checked := Ybad.checked }
namespace Rows
def none {H : Type} : Left H := { results := [], args := [] }

/- WHAT THE LISTED PACKAGE-LEVEL VARIABLES READ AS WHEN THE CALL BEGINS. Each datum BY PROGRAM (the guide's laid-datum.mjs) off the statement by which the dump's own 'gosem.cut.vars' lays the variable. In a bare row this is a premise. The card (YbulkcumwDoorCards.lean) ties it to the program's text. -/
def laid_example_com_sekond_sekond_monthDays {H : Type} : DataW H := .agg [.lit (.int .u8 31), .lit (.int .u8 28), .lit (.int .u8 31), .lit (.int .u8 30), .lit (.int .u8 31), .lit (.int .u8 30), .lit (.int .u8 31), .lit (.int .u8 31), .lit (.int .u8 30), .lit (.int .u8 31), .lit (.int .u8 30), .lit (.int .u8 31)]

/-- 'sekond.LawS4806AAnyText': WHATEVER THE INPUT: true; the input reads as it did. -/
def lawS4806AAnyTextSpec : ChangeSpec := { name := "lawS4806AAnyText", vars := ["example.com/sekond/sekond.monthDays"], fn := fun _ => fun
  | [d1, d2, g1] => { results := [.lit (.bool true)], args := [d1, d2], vars := [g1] }
  | _ => none }
def lawS4806AAnyTextRow : OpenClaim := { program := "ybulkcumwdoor", sum := "05548d189eac7a0e1f39300a36134a4e41d7248e6c026a61dfc5cb79c0b2d31a", func := "example.com/sekond/sekond.LawS4806AAnyText", spec := "lawS4806AAnyText", named := ["example.com/sekond/sekond.monthDays"], apart := false, laid := [("example.com/sekond/sekond.monthDays", laid_example_com_sekond_sekond_monthDays)] }
def LawS4806AAnyTextSaid : Prop := lawS4806AAnyTextRow.holds Ybad.pinned (OpenSpec.ofChange lawS4806AAnyTextSpec)

/-- ITS FALSE NEIGHBOUR: 'it returns false'. Refute it at one input. -/
def lawS4806AAnyTextWrong : ChangeSpec := { name := "lawS4806AAnyText", vars := ["example.com/sekond/sekond.monthDays"], fn := fun _ => fun
  | [d1, d2, g1] => { results := [.lit (.bool false)], args := [d1, d2], vars := [g1] }
  | _ => none }
def LawS4806AAnyTextWrongFalsely : Prop := lawS4806AAnyTextRow.holds Ybad.pinned (OpenSpec.ofChange lawS4806AAnyTextWrong)

end Rows
end Go.Proofs.YbulkcumwDoor
