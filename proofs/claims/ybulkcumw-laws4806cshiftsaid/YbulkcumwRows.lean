/-
  No cell of these rows narrows 'for every input' (looked for: loops, veiled, ifaces, maps, wideKeys, modest, calm, conditions, laid).
  DERIVED. THE GIVEN ROWS OF THIS SEAT. 2 by the template 'for every input the law returns true; each argument reads behind the call as it read before'; 0 by the template 'total and deterministic' (their statements: YbulkcumwTotals.lean).
  GIVEN WITH THE SEED: the statements are not yours to turn. If you find one false, say at which input.
  Laid BY PROGRAM, IN A SANDBOX (cutbox-rows.mjs): the forced cells as the released guide's own fill.sh prints them over the translation 099d9290f4ef8b40… (all of the seat's roots in one cut). By AI agents, Wed Nov 11 2026. No macro, syntax, notation, axiom, sorry.
-/
import Derived.Test.YbulkcumwChecked
import GoSem.Claim
import GoSem.ClaimJoined
import GoSem.ClaimMapViews
import Derived.JoinedTies
import Derived.KernelRfl
namespace Go.Proofs.Ybulkcumw
/- THE CELL 'sum', in the pinned program and in every row, IS THE sha256 OF THE DUMP (.gsa) THAT YbulkcumwProg.lean LOADS. Nothing in Lean hashes anything: it is a label: what it is worth is what the hold of that sum in a sandbox is worth. -/
noncomputable def Yba.pinned : Pinned := { name := "ybulkcumw", sum := "099d9290f4ef8b40dbfd0b5fbebb127c0cc466b68c225a1fa8d96df3c28ba4a5", checked := Yba.checked }
namespace Rows
def none {H : Type} : Left H := { results := [], args := [] }

/-- 'sekond.LawS4806CAt': WHATEVER THE INPUT: true; the input reads as it did. -/
def lawS4806CAtSpec : ChangeSpec := { name := "lawS4806CAt", fn := fun _ => fun
  | [d1, d2, d3, d4] => { results := [.lit (.bool true)], args := [d1, d2, d3, d4] }
  | _ => none }
def lawS4806CAtRow : OpenClaim := { program := "ybulkcumw", sum := "099d9290f4ef8b40dbfd0b5fbebb127c0cc466b68c225a1fa8d96df3c28ba4a5", func := "example.com/sekond/sekond.LawS4806CAt", spec := "lawS4806CAt", apart := false }
def LawS4806CAtSaid : Prop := lawS4806CAtRow.holds Yba.pinned (OpenSpec.ofChange lawS4806CAtSpec)

/-- ITS FALSE NEIGHBOUR: 'it returns false'. Refute it at one input. -/
def lawS4806CAtWrong : ChangeSpec := { name := "lawS4806CAt", fn := fun _ => fun
  | [d1, d2, d3, d4] => { results := [.lit (.bool false)], args := [d1, d2, d3, d4] }
  | _ => none }
def LawS4806CAtWrongFalsely : Prop := lawS4806CAtRow.holds Yba.pinned (OpenSpec.ofChange lawS4806CAtWrong)

/-- 'sekond.LawS4806CShift': WHATEVER THE INPUT: true; the input reads as it did. -/
def lawS4806CShiftSpec : ChangeSpec := { name := "lawS4806CShift", fn := fun _ => fun
  | [d1, d2, d3] => { results := [.lit (.bool true)], args := [d1, d2, d3] }
  | _ => none }
def lawS4806CShiftRow : OpenClaim := { program := "ybulkcumw", sum := "099d9290f4ef8b40dbfd0b5fbebb127c0cc466b68c225a1fa8d96df3c28ba4a5", func := "example.com/sekond/sekond.LawS4806CShift", spec := "lawS4806CShift", apart := false }
def LawS4806CShiftSaid : Prop := lawS4806CShiftRow.holds Yba.pinned (OpenSpec.ofChange lawS4806CShiftSpec)

/-- ITS FALSE NEIGHBOUR: 'it returns false'. Refute it at one input. -/
def lawS4806CShiftWrong : ChangeSpec := { name := "lawS4806CShift", fn := fun _ => fun
  | [d1, d2, d3] => { results := [.lit (.bool false)], args := [d1, d2, d3] }
  | _ => none }
def LawS4806CShiftWrongFalsely : Prop := lawS4806CShiftRow.holds Yba.pinned (OpenSpec.ofChange lawS4806CShiftWrong)

end Rows
end Go.Proofs.Ybulkcumw
