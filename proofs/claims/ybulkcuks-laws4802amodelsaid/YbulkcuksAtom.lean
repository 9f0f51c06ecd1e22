/-
  sync/atomic's methods on the road.
-/
import Derived.Test.YbulkcuksLocks
import Derived.WalkKit
import Derived.WalkSpells
import Derived.WalkLawsBesides
import Derived.Below
import Derived.Conc.MuLone
import Derived.Lib.Builder
namespace Go.Proofs.Ybulkcuks
open Go.RowKit

theorem load_calls (b o : Nat) (x : Int) (w : World) (hc : w.cell? ⟨b, o, none⟩ = some (.int .u64 x)) :
    Calls Yba.prog 8 #[.pointer (some ⟨b, o, none⟩)] w fun e w' => e = .returned (.int .u64 x) ∧ w' = w := by
  have hl := run_call_load (P := Yba.prog) Yba.func18 (by kernel_rfl) (by kernel_rfl) (by kernel_rfl) .u64 (by kernel_rfl) hc
  go_enter Yba.func8, Yba.ntmps8
  go_wp2_with (fail)
  go_ret
  exact ⟨rfl, rfl⟩

theorem add_calls (b o : Nat) (x y s : Int) (w : World) (hc : w.cell? ⟨b, o, none⟩ = some (.int .u64 x)) (hz : w.frozen? ⟨b, o, none⟩ = false) (hs : IntKind.u64.wrap (x + y) = s) :
    Calls Yba.prog 23 #[.pointer (some ⟨b, o, none⟩), .int .u64 y] w fun e w' => e = .returned (.int .u64 s) ∧ w' = w.setCell ⟨b, o, none⟩ (.int .u64 s) := by
  have hl := run_call_add (P := Yba.prog) Yba.func30 (by kernel_rfl) (by kernel_rfl) (by kernel_rfl) .u64 (by kernel_rfl) (y := y) (s := s) hc hz (by simp [go_sem, Op.intArith, hs])
  go_enter Yba.func23, Yba.ntmps23
  go_wp2_with (fail)
  go_ret
  exact ⟨rfl, rfl⟩

theorem run_call_load_ptr {P : Program} {f : FuncId} {fn : Func} (hf : P.funcs[f]? = some fn) (hname : (fn.name == "runtime.NumGoroutine") = false) (hb : fn.body.isNone = true) (hn : Extern.findNext fn = none)
    (he : Extern.find fn = some (Extern.Atomic.loadT .ptr)) {a : Addr} {x : Option Addr} {w : World} (hc : w.cell? a = some (.pointer x)) :
    (callFunc f #[.pointer (some a)]).run P w = .ok (.value (.pointer x)) w := by
  rw [run_callFunc_extern hf hname hb hn he]
  change (Sem.run P (do Extern.Atomic.read .ptr (← asAddr (.pointer (some a)))) w).andThen _ = _
  simp [Extern.Atomic.read, asAddr, hc, Result.andThen]

theorem run_call_store_ptr {P : Program} {f : FuncId} {fn : Func} (hf : P.funcs[f]? = some fn) (hname : (fn.name == "runtime.NumGoroutine") = false) (hb : fn.body.isNone = true) (hn : Extern.findNext fn = none)
    (he : Extern.find fn = some Extern.Atomic.storeT) {a : Addr} {y : Option Addr} {u : Value} {w : World} (hc : w.cell? a = some u) (hz : w.frozen? a = false) :
    (callFunc f #[.pointer (some a), .pointer y]).run P w = .ok (.value (.tuple #[])) (w.setCell a (.pointer y)) := by
  rw [run_callFunc_extern hf hname hb hn he]
  change (Sem.run P (do
    store (← asAddr (.pointer (some a))) (.pointer y) .atomic
    pure Extern.Atomic.none_) w).andThen _ = _
  simp [asAddr, hc, hz, run_store P w a (.pointer y) .atomic rfl, Result.andThen, Extern.Atomic.none_]

theorem pload_calls (b o tb : Nat) (w : World) (hc : w.cell? ⟨b, o, none⟩ = some (.pointer (some ⟨tb, 0, none⟩))) (hs : w.shape? tb = some (101, 4)) :
    Calls Yba.prog 39 #[.pointer (some ⟨b, o, none⟩)] w fun e w' => e = .returned (.pointer (some ⟨tb, 0, none⟩)) ∧ w' = w := by
  have hl := run_call_load_ptr (P := Yba.prog) Yba.func54 (by kernel_rfl) (by kernel_rfl) (by kernel_rfl) (by kernel_rfl) hc
  have hi : (Yba.prog.info? 101).isSome = true := by kernel_rfl
  obtain ⟨j, hj⟩ := Option.isSome_iff_exists.1 hi
  have hlies : liesAt Yba.prog Yba.prog.depth 101 (4 / Yba.prog.cellsOf 101) 0 101 1 = true := by kernel_rfl
  have hcv := Lib.run_from_unsafe (P := Yba.prog) w (src := 54) (dst := 52) ⟨tb, 0, none⟩ Yba.underlying54 Yba.underlying52 hj hs hlies
  clear hlies hj hi hs
  go_enter Yba.func39, Yba.ntmps39
  go_wp2_with (fail)
  go_ret
  exact ⟨rfl, rfl⟩

theorem pstore_calls (b o tb : Nat) (u v : Value) (w : World) (hc : w.cell? ⟨b, o, none⟩ = some u) (hz : w.frozen? ⟨b, o, none⟩ = false) (ht : w.cell? ⟨tb, 0, none⟩ = some v) :
    Calls Yba.prog 12 #[.pointer (some ⟨b, o, none⟩), .pointer (some ⟨tb, 0, none⟩)] w fun e w' => e = .returned (.tuple #[]) ∧ w' = w.setCell ⟨b, o, none⟩ (.pointer (some ⟨tb, 0, none⟩)) := by
  have hl := run_call_store_ptr (P := Yba.prog) Yba.func20 (by kernel_rfl) (by kernel_rfl) (by kernel_rfl) (by kernel_rfl) (y := some ⟨tb, 0, none⟩) hc hz
  have hcv := run_convert_to_unsafe (P := Yba.prog) Yba.underlying52 Yba.underlying54 (by kernel_rfl) ht
  go_enter Yba.func12, Yba.ntmps12
  go_wp2_with (fail)
  go_end0
  exact ⟨rfl, rfl⟩

end Go.Proofs.Ybulkcuks
