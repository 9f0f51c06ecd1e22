/-
  No cell of these rows narrows 'for every input' (looked for: loops, veiled, ifaces, maps, wideKeys, modest, calm, conditions, laid).
  DERIVED. THE GIVEN ROWS OF THIS SEAT. 4 by the template 'for every input the law returns true; each argument reads behind the call as it read before'; 0 by the template 'total and deterministic' (their statements: YbulkcumiTotals.lean).
  GIVEN WITH THE SEED: the statements are not yours to turn. If you find one false, say at which input.
  Laid BY PROGRAM, IN A SANDBOX (cutbox-rows.mjs): the forced cells as the released guide's own fill.sh prints them over the translation 2f166978eba3c17e… (all of the seat's roots in one cut). By AI agents, Wed Nov 11 2026. No macro, syntax, notation, axiom, sorry.
-/
import Derived.Test.YbulkcumiChecked
import GoSem.Claim
import GoSem.ClaimJoined
import GoSem.ClaimMapViews
import Derived.JoinedTies
import Derived.KernelRfl
namespace Go.Proofs.Ybulkcumi
/- THE CELL 'sum', in the pinned program and in every row, IS THE sha256 OF THE DUMP (.gsa) THAT YbulkcumiProg.lean LOADS. Nothing in Lean hashes anything: it is a label: what it is worth is what the hold of that sum in a sandbox is worth. -/
noncomputable def Yba.pinned : Pinned := { name := "ybulkcumi", sum := "2f166978eba3c17ec13c607cd5b75219ff16dc6cdedd9adc9ada69e37ddd99ca", checked := Yba.checked }
namespace Rows
def none {H : Type} : Left H := { results := [], args := [] }

/-- 'protocol.LawS4805AOne': WHATEVER THE INPUT: true; the input reads as it did. -/
def lawS4805AOneSpec : ChangeSpec := { name := "lawS4805AOne", fn := fun _ => fun
  | [d1, d2, d3, d4, d5, d6, d7] => { results := [.lit (.bool true)], args := [d1, d2, d3, d4, d5, d6, d7] }
  | _ => none }
def lawS4805AOneRow : OpenClaim := { program := "ybulkcumi", sum := "2f166978eba3c17ec13c607cd5b75219ff16dc6cdedd9adc9ada69e37ddd99ca", func := "example.com/tidings/tidings/internal/protocol.LawS4805AOne", spec := "lawS4805AOne", unfollowed := true, recurses := true, named := ["encoding/binary.BigEndian"], plainKeys := false, apart := false }
def LawS4805AOneSaid : Prop := lawS4805AOneRow.holds Yba.pinned (OpenSpec.ofChange lawS4805AOneSpec)

/-- ITS FALSE NEIGHBOUR: 'it returns false'. Refute it at one input. -/
def lawS4805AOneWrong : ChangeSpec := { name := "lawS4805AOne", fn := fun _ => fun
  | [d1, d2, d3, d4, d5, d6, d7] => { results := [.lit (.bool false)], args := [d1, d2, d3, d4, d5, d6, d7] }
  | _ => none }
def LawS4805AOneWrongFalsely : Prop := lawS4805AOneRow.holds Yba.pinned (OpenSpec.ofChange lawS4805AOneWrong)

/-- 'protocol.LawS4805AScript': WHATEVER THE INPUT: true; the input reads as it did. -/
def lawS4805AScriptSpec : ChangeSpec := { name := "lawS4805AScript", fn := fun _ => fun
  | [d1, d2, d3] => { results := [.lit (.bool true)], args := [d1, d2, d3] }
  | _ => none }
def lawS4805AScriptRow : OpenClaim := { program := "ybulkcumi", sum := "2f166978eba3c17ec13c607cd5b75219ff16dc6cdedd9adc9ada69e37ddd99ca", func := "example.com/tidings/tidings/internal/protocol.LawS4805AScript", spec := "lawS4805AScript", unfollowed := true, recurses := true, named := ["encoding/binary.BigEndian"], plainKeys := false, apart := false }
def LawS4805AScriptSaid : Prop := lawS4805AScriptRow.holds Yba.pinned (OpenSpec.ofChange lawS4805AScriptSpec)

/-- ITS FALSE NEIGHBOUR: 'it returns false'. Refute it at one input. -/
def lawS4805AScriptWrong : ChangeSpec := { name := "lawS4805AScript", fn := fun _ => fun
  | [d1, d2, d3] => { results := [.lit (.bool false)], args := [d1, d2, d3] }
  | _ => none }
def LawS4805AScriptWrongFalsely : Prop := lawS4805AScriptRow.holds Yba.pinned (OpenSpec.ofChange lawS4805AScriptWrong)

/-- 'protocol.LawS4805BRoot': WHATEVER THE INPUT: true; the input reads as it did. -/
def lawS4805BRootSpec : ChangeSpec := { name := "lawS4805BRoot", fn := fun _ => fun
  | [d] => { results := [.lit (.bool true)], args := [d] }
  | _ => none }
def lawS4805BRootRow : OpenClaim := { program := "ybulkcumi", sum := "2f166978eba3c17ec13c607cd5b75219ff16dc6cdedd9adc9ada69e37ddd99ca", func := "example.com/tidings/tidings/internal/protocol.LawS4805BRoot", spec := "lawS4805BRoot", plainKeys := false, apart := false }
def LawS4805BRootSaid : Prop := lawS4805BRootRow.holds Yba.pinned (OpenSpec.ofChange lawS4805BRootSpec)

/-- ITS FALSE NEIGHBOUR: 'it returns false'. Refute it at one input. -/
def lawS4805BRootWrong : ChangeSpec := { name := "lawS4805BRoot", fn := fun _ => fun
  | [d] => { results := [.lit (.bool false)], args := [d] }
  | _ => none }
def LawS4805BRootWrongFalsely : Prop := lawS4805BRootRow.holds Yba.pinned (OpenSpec.ofChange lawS4805BRootWrong)

/-- 'protocol.LawS4805BScript': WHATEVER THE INPUT: true; the input reads as it did. -/
def lawS4805BScriptSpec : ChangeSpec := { name := "lawS4805BScript", fn := fun _ => fun
  | [d] => { results := [.lit (.bool true)], args := [d] }
  | _ => none }
def lawS4805BScriptRow : OpenClaim := { program := "ybulkcumi", sum := "2f166978eba3c17ec13c607cd5b75219ff16dc6cdedd9adc9ada69e37ddd99ca", func := "example.com/tidings/tidings/internal/protocol.LawS4805BScript", spec := "lawS4805BScript", unfollowed := true, recurses := true, named := ["encoding/binary.BigEndian"], plainKeys := false, apart := false }
def LawS4805BScriptSaid : Prop := lawS4805BScriptRow.holds Yba.pinned (OpenSpec.ofChange lawS4805BScriptSpec)

/-- ITS FALSE NEIGHBOUR: 'it returns false'. Refute it at one input. -/
def lawS4805BScriptWrong : ChangeSpec := { name := "lawS4805BScript", fn := fun _ => fun
  | [d] => { results := [.lit (.bool false)], args := [d] }
  | _ => none }
def LawS4805BScriptWrongFalsely : Prop := lawS4805BScriptRow.holds Yba.pinned (OpenSpec.ofChange lawS4805BScriptWrong)

end Rows
end Go.Proofs.Ybulkcumi
