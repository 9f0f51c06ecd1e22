/-
  checkpoint.wait, by the laws of one goroutine.
-/
import Derived.Test.YbulkcuksDoorProg
import Derived.Conc.LoneCalls
import Derived.KernelRfl
import Derived.Laws.Rows
namespace Go.Proofs.YbulkcuksDoor
open Go.Conc Go.RowKit

set_option maxRecDepth 100000 in
/-- checkpoint.wait: its channel is closed: the error is handed back; nothing turns. -/
theorem wait_closed (bc ch s r : Nat) (tm : Bool) (ev : Value) (w : World) (h13 : w.cell? ⟨bc, 13, none⟩ = some (.chan (some ch))) (h14 : w.cell? ⟨bc, 14, none⟩ = some ev) (hch : w.heap[ch]? = some (.chan 0 #[] true s r tm)) :
    Calls Ybad.prog 13 #[.pointer (some ⟨bc, 0, none⟩)] w fun e w' => e = .returned ev ∧ w' = w := by
  refine calls_of_loneTo fun cs => ?_
  have e : Frame.enter Ybad.prog 13 #[.pointer (some ⟨bc, 0, none⟩)] .normal = (base 13).at ⟨#[.pointer (some ⟨bc, 0, none⟩), undef, undef, undef, undef, undef, undef, undef, undef, undef, undef, undef], []⟩ [.code (Ybad.f13.body.getD .skip)] := by
    simp [Frame.enter, Frame.at, Ybad.func13, base, Ybad.f13]
  rw [e]
  refine LoneTo.goes (n := 10) ?_
  simp only [Ybad.f13, Option.getD_some]
  s_c stepG_seq
  s_reg
  s_op
  s_c stepG_region_end
  s_c stepG_seq
  s_reg
  s_op
  s_op
  s_op
  s_op
  s_stop
  refine LoneTo.step (step_lone_recv_shut false (c := ch) (z := .agg #[]) (cap := 0) (s := s) (r := r) (tm := tm) (stepG_comm (cases := #[rcase ch (.agg #[])]) (blocking := true) (shape := .recv false) (w' := w) rfl rfl (by decide) (by simp [go_sem, rcase])) hch) ?_
  rw [Frame.finish_at]
  simp only [got]
  walk_nrm
  refine LoneTo.goes (n := 10) ?_
  s_c stepG_region_end
  s_c stepG_seq
  s_reg
  s_op
  s_op
  s_op
  s_op
  s_op
  s_c stepG_region_end
  s_c stepG_ret'
  s_stop
  refine LoneTo.done ⟨.returned ev, _, rfl, ⟨rfl, rfl⟩, rfl, rfl, rfl, rfl, _, Ybad.func13, by simp [results, Ybad.f13, Frame.at]⟩
end Go.Proofs.YbulkcuksDoor
