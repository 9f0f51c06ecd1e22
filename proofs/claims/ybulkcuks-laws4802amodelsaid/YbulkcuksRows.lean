/-
  No cell of these rows narrows 'for every input' (looked for: loops, veiled, ifaces, maps, wideKeys, modest, calm, conditions, laid).
  DERIVED. THE GIVEN ROWS OF THIS SEAT. 1 by the template 'for every input the law returns true; each argument reads behind the call as it read before'; 0 by the template 'total and deterministic' (their statements: YbulkcuksTotals.lean).
  GIVEN WITH THE SEED: the statements are not yours to turn. If you find one false, say at which input.
  Laid BY PROGRAM, IN A SANDBOX (cutbox-rows.mjs): the forced cells as the released guide's own fill.sh prints them over the translation c454b45b65612b7e… (all of the seat's roots in one cut). By AI agents, Wed Nov 11 2026. No macro, syntax, notation, axiom, sorry.
-/
import Derived.Test.YbulkcuksChecked
import GoSem.Claim
import GoSem.ClaimJoined
import GoSem.ClaimMapViews
import Derived.JoinedTies
import Derived.KernelRfl
namespace Go.Proofs.Ybulkcuks
/- THE CELL 'sum', in the pinned program and in every row, IS THE sha256 OF THE DUMP (.gsa) THAT YbulkcuksProg.lean LOADS. Nothing in Lean hashes anything: it is a label: what it is worth is what the hold of that sum in a sandbox is worth. -/
noncomputable def Yba.pinned : Pinned := { name := "ybulkcuks", sum := "c454b45b65612b7efb497be51311de317dd0ea58003002a908a265671bb58744", checked := Yba.checked }
namespace Rows
def none {H : Type} : Left H := { results := [], args := [] }

/-- 'holdfast.LawS4802AModel': WHATEVER THE INPUT: true; the input reads as it did. -/
def lawS4802AModelSpec : ChangeSpec := { name := "lawS4802AModel", fn := fun _ => fun
  | [d1, d2] => { results := [.lit (.bool true)], args := [d1, d2] }
  | _ => none }
def lawS4802AModelRow : OpenClaim := { program := "ybulkcuks", sum := "c454b45b65612b7efb497be51311de317dd0ea58003002a908a265671bb58744", func := "example.com/holdfast/holdfast.LawS4802AModel", spec := "lawS4802AModel", inPlace := ["sync/atomic.StorePointer", "slices.overlaps[uint64]", "sync/atomic.AddUint64", "sync/atomic.LoadUint64", "runtime.Gosched", "(*internal/sync.Mutex).Lock", "internal/race.Disable", "sync/atomic.CompareAndSwapInt32", "internal/race.Enable", "internal/race.Acquire", "(*internal/sync.Mutex).lockSlow", "internal/sync.runtime_canSpin", "internal/sync.runtime_doSpin", "internal/sync.throw", "internal/sync.runtime_nanotime", "internal/sync.runtime_SemacquireMutex", "sync/atomic.AddInt32", "(*internal/sync.Mutex).Unlock", "internal/race.ReleaseMerge", "(*internal/sync.Mutex).unlockSlow", "internal/sync.fatal", "internal/sync.runtime_Semrelease", "sync/atomic.LoadPointer", "sync/atomic.StoreUint64", "sync/atomic.StoreUint32", "sync/atomic.LoadInt32"], unfollowed := true, recurses := true, apart := false }
def LawS4802AModelSaid : Prop := lawS4802AModelRow.holds Yba.pinned (OpenSpec.ofChange lawS4802AModelSpec)

/-- ITS FALSE NEIGHBOUR: 'it returns false'. Refute it at one input. -/
def lawS4802AModelWrong : ChangeSpec := { name := "lawS4802AModel", fn := fun _ => fun
  | [d1, d2] => { results := [.lit (.bool false)], args := [d1, d2] }
  | _ => none }
def LawS4802AModelWrongFalsely : Prop := lawS4802AModelRow.holds Yba.pinned (OpenSpec.ofChange lawS4802AModelWrong)

end Rows
end Go.Proofs.Ybulkcuks
