/-
  The two callees of LawS4805BRoot: the name of a number, the queue's root; and the queue as a row of pointers in memory.
-/
import Derived.Test.YbulkcumiRows
import Derived.WalkKit
import Derived.WalkSpells
import Derived.WalkLawsBesides
import Derived.Below
import Derived.LaidEql
import Derived.Deep.OwnRows
namespace Go.Proofs.Ybulkcumi
open Go.RowKit

theorem name_calls (z : Int) (w : World) : Calls Yba.prog 16 #[.int .u8 z] w fun e w' => (∃ s, e = .returned (.string s)) ∧ w' = w := by
  go_enter Yba.func16, Yba.ntmps16
  go_wp2
  all_goals (go_ret; exact ⟨⟨_, rfl⟩, rfl⟩)

theorem earliest_nil (kb : Nat) (a : Option Addr) (w : World) (hq : w.cell? ⟨kb, 1, none⟩ = some (.slice a 0 0)) :
    Calls Yba.prog 17 #[.pointer (some ⟨kb, 0, none⟩)] w fun e w' => e = .returned (.pointer none) ∧ w' = w := by
  go_enter Yba.func17, Yba.ntmps17
  go_wp2
  all_goals (go_ret; exact ⟨rfl, rfl⟩)

theorem earliest_root (kb qb n : Nat) (p : Option Addr) (w : World) (h0 : 0 < n) (hm : n ≤ 1024) (hq : w.cell? ⟨kb, 1, none⟩ = some (.slice (some ⟨qb, 0, none⟩) n n)) (hp : w.cell? ⟨qb, 0, none⟩ = some (.pointer p)) :
    Calls Yba.prog 17 #[.pointer (some ⟨kb, 0, none⟩)] w fun e w' => e = .returned (.pointer p) ∧ w' = w := by
  have h1 : ((n : Int) == 0) = false := by simp; omega
  have h2 : (0 : Int) < n := by omega
  go_enter Yba.func17, Yba.ntmps17
  go_wp2
  all_goals (go_ret; exact ⟨rfl, rfl⟩)

theorem run_make_queue (w : World) (n : Nat) (h : n ≤ 1024) : (Instr.makeSlice 49 (.int .i64 n) (.int .i64 n)).run Yba.prog w = .ok (.slice (some ⟨w.heap.size, 0, none⟩) n n) (w.alloc (.cells (madeCells #[.pointer none] n) 87)) := by
  have hinfo : (Yba.prog.info? 87).map (fun i => (i.zero, i.size, i.bytes)) = some (some (.pointer none), 1, 8) := by kernel_rfl
  exact run_make_row' 49 87 (.pointer none) 8 Yba.underlying49 hinfo rfl .i64 .i64 n (by omega) (by omega) w

end Go.Proofs.Ybulkcumi
