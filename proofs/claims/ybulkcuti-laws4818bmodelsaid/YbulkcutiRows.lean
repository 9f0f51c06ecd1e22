/-
  No cell of these rows narrows 'for every input' (looked for: loops, veiled, ifaces, maps, wideKeys, modest, calm, conditions, laid).
  DERIVED. THE GIVEN ROWS OF THIS SEAT. 2 by the template 'for every input the law returns true; each argument reads behind the call as it read before'; 0 by the template 'total and deterministic' (their statements: YbulkcutiTotals.lean).
  GIVEN WITH THE SEED: the statements are not yours to turn. If you find one false, say at which input.
  Laid BY PROGRAM, IN A SANDBOX (cutbox-rows.mjs): the forced cells as the released guide's own fill.sh prints them over the translation 3b937c2108c8fc6a… (all of the seat's roots in one cut). By AI agents, Wed Nov 11 2026. No macro, syntax, notation, axiom, sorry.
-/
import Derived.Test.YbulkcutiChecked
import GoSem.Claim
import GoSem.ClaimJoined
import GoSem.ClaimMapViews
import Derived.JoinedTies
import Derived.KernelRfl
namespace Go.Proofs.Ybulkcuti
/- THE CELL 'sum', in the pinned program and in every row, IS THE sha256 OF THE DUMP (.gsa) THAT YbulkcutiProg.lean LOADS. Nothing in Lean hashes anything: it is a label: what it is worth is what the hold of that sum in a sandbox is worth. -/
noncomputable def Yba.pinned : Pinned := { name := "ybulkcuti", sum := "3b937c2108c8fc6af0e0c415ef1aad5bcba4c67b7ccdaa9b6a1354aa83fc2fe5", checked := Yba.checked }
namespace Rows
def none {H : Type} : Left H := { results := [], args := [] }

/-- 'clashwright.LawS4818BModel': WHATEVER THE INPUT: true; the input reads as it did. -/
def lawS4818BModelSpec : ChangeSpec := { name := "lawS4818BModel", fn := fun _ => fun
  | [d1, d2, d3, d4] => { results := [.lit (.bool true)], args := [d1, d2, d3, d4] }
  | _ => none }
def lawS4818BModelRow : OpenClaim := { program := "ybulkcuti", sum := "3b937c2108c8fc6af0e0c415ef1aad5bcba4c67b7ccdaa9b6a1354aa83fc2fe5", func := "example.com/clashwright/clashwright.LawS4818BModel", spec := "lawS4818BModel", apart := false }
def LawS4818BModelSaid : Prop := lawS4818BModelRow.holds Yba.pinned (OpenSpec.ofChange lawS4818BModelSpec)

/-- ITS FALSE NEIGHBOUR: 'it returns false'. Refute it at one input. -/
def lawS4818BModelWrong : ChangeSpec := { name := "lawS4818BModel", fn := fun _ => fun
  | [d1, d2, d3, d4] => { results := [.lit (.bool false)], args := [d1, d2, d3, d4] }
  | _ => none }
def LawS4818BModelWrongFalsely : Prop := lawS4818BModelRow.holds Yba.pinned (OpenSpec.ofChange lawS4818BModelWrong)

/-- 'clashwright.LawS4818BOrder': WHATEVER THE INPUT: true; the input reads as it did. -/
def lawS4818BOrderSpec : ChangeSpec := { name := "lawS4818BOrder", fn := fun _ => fun
  | [d1, d2, d3, d4] => { results := [.lit (.bool true)], args := [d1, d2, d3, d4] }
  | _ => none }
def lawS4818BOrderRow : OpenClaim := { program := "ybulkcuti", sum := "3b937c2108c8fc6af0e0c415ef1aad5bcba4c67b7ccdaa9b6a1354aa83fc2fe5", func := "example.com/clashwright/clashwright.LawS4818BOrder", spec := "lawS4818BOrder", apart := false }
def LawS4818BOrderSaid : Prop := lawS4818BOrderRow.holds Yba.pinned (OpenSpec.ofChange lawS4818BOrderSpec)

/-- ITS FALSE NEIGHBOUR: 'it returns false'. Refute it at one input. -/
def lawS4818BOrderWrong : ChangeSpec := { name := "lawS4818BOrder", fn := fun _ => fun
  | [d1, d2, d3, d4] => { results := [.lit (.bool false)], args := [d1, d2, d3, d4] }
  | _ => none }
def LawS4818BOrderWrongFalsely : Prop := lawS4818BOrderRow.holds Yba.pinned (OpenSpec.ofChange lawS4818BOrderWrong)

end Rows
end Go.Proofs.Ybulkcuti
