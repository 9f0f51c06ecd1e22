/-
  The numbers under which this dump holds sync.Mutex, and that it holds it (after Derived/Test/LockinLocks.lean; the kernel checks each).
-/
import Derived.Test.YbulkcuksRows
import Derived.Conc.RwLib
import Derived.Conc.MuData
import Derived.KernelRfl
namespace Go.Proofs.Ybulkcuks
abbrev muLink : Go.Conc.Locks.MuLink := { lock := 31, unlock := 32, ilock := 37, iunlock := 38, lockSlow := 50, unlockSlow := 53, disable := 46, enable := 48, acquire := 49, relMerge := 51, cas32 := 47, add32 := 52, tMutex := 31, tIMutex := 29, tPMutex := 123, tPIMutex := 135, tPI32 := 137, tUP := 54, tNoCopy := 26, tU32 := 27 }
theorem muLib : Go.Conc.Locks.MuLib Yba.prog muLink :=
  ⟨Yba.func31, Yba.func32, Yba.func37, Yba.func38, Yba.func46, Yba.func48, Yba.func49, Yba.func51, Yba.func47, Yba.func52, Yba.underlying29, Yba.runUnderlying29, Yba.sizeOf29, Yba.isAgg29, Yba.zeroValue29, Yba.underlying31, Yba.runUnderlying31, Yba.sizeOf31, Yba.isAgg31, Yba.zeroValue31, Yba.underlying123, Yba.runUnderlying123, Yba.sizeOf123, Yba.isAgg123, Yba.zeroValue123, Yba.underlying135, Yba.runUnderlying135, Yba.sizeOf135, Yba.isAgg135, Yba.zeroValue135, Yba.underlying137, Yba.runUnderlying137, Yba.sizeOf137, Yba.isAgg137, Yba.zeroValue137, Yba.underlying54, Yba.runUnderlying54, Yba.sizeOf54, Yba.isAgg54, Yba.zeroValue54, Yba.underlying26, Yba.runUnderlying26, Yba.sizeOf26, Yba.isAgg26, Yba.zeroValue26, Yba.underlying21, Yba.runUnderlying21, Yba.sizeOf21, Yba.isAgg21, Yba.zeroValue21, (by kernel_rfl)⟩
end Go.Proofs.Ybulkcuks
