/-
  bitset.all, pageSet.all, zzs4802cmeta; finishCheckpoint where no checkpoint is in flight, and where it failed.
-/
import Derived.Test.YbulkcuksDoorIter
import Derived.Test.YbulkcuksDoorWait
namespace Go.Proofs.YbulkcuksDoor
open Go.RowKit

set_option maxHeartbeats 400000 in
theorem ball_any (c0 c1 : Value) (w : World) :
    Calls Ybad.prog 18 #[.agg #[c0, c1]] w fun e w' => e = .returned (.func (.func 21) #[] #[.pointer (some ⟨w.heap.size, 0, none⟩)]) ∧ w' = w.alloc (.cells #[c0, c1] 38) := by
  have hmf : ∀ (fn : Fn) (first cap : Array Value) (w : World), (Instr.makeFunc fn first cap).run Ybad.prog w = .ok (.func fn first cap) w := fun _ _ _ _ => rfl
  go_enter Ybad.func18, Ybad.ntmps18
  go_wp2
  go_ret
  exact ⟨rfl, rfl⟩

set_option maxHeartbeats 400000 in
theorem pall_any (b o : Nat) (c0 c1 : Value) (w : World) (h0 : w.cell? ⟨b, o, none⟩ = some c0) (h1 : w.cell? ⟨b, o + 1, none⟩ = some c1) :
    Calls Ybad.prog 14 #[.pointer (some ⟨b, o, none⟩)] w fun e w' => e = .returned (.func (.func 21) #[] #[.pointer (some ⟨w.heap.size, 0, none⟩)]) ∧ w' = w.alloc (.cells #[c0, c1] 38) := by
  go_enter Ybad.func14, Ybad.ntmps14
  go_wp2_with (go_at_call 18; refine (ball_any _ _ _).mono ?_; rintro e w' ⟨rfl, rfl⟩)
  go_ret
  exact ⟨rfl, rfl⟩

set_option maxHeartbeats 400000 in
theorem meta_any (g r c fh fc lo : Int) (w : World) :
    Calls Ybad.prog 6 #[.agg #[.int .u64 g, .int .u32 r, .int .u32 c, .int .u32 fh, .int .u32 fc, .int .i64 lo]] w fun e w' => e = .returned (.agg #[.int .u64 g, .int .u32 r, .int .u32 c, .int .u32 fh, .int .u32 fc, .int .i64 lo]) ∧ Below w.heap.size w w' := by
  go_enter Ybad.func6, Ybad.ntmps6
  go_wp2
  exact bodyPost_ret (v := .agg #[.int .u64 g, .int .u32 r, .int .u32 c, .int .u32 fh, .int .u32 fc, .int .i64 lo]) (by simp [results, Ybad.results6, go_sem]) rfl ⟨rfl, ((Below.refl _ _).alloc (Nat.le_refl _) _).alloc (by simp) _⟩

set_option maxHeartbeats 400000 in
theorem finish_nil (bp : Nat) (w : World) (h23 : w.cell? ⟨bp, 23, none⟩ = some (.pointer none)) :
    Calls Ybad.prog 8 #[.pointer (some ⟨bp, 0, none⟩)] w fun e w' => e = .returned .nilIface ∧ Below w.heap.size w w' := by
  have hb : bp < w.heap.size := World.block_lt_of_cell? w _ h23
  go_enter Ybad.func8, Ybad.ntmps8
  go_wp2
  go_ret
  exact ⟨rfl, (Below.refl _ _).alloc (Nat.le_refl _) _⟩

set_option maxRecDepth 100000 in
set_option maxHeartbeats 400000 in
theorem finish_err (bp bc ch s r : Nat) (tm : Bool) (t : TypeId) (pv : Value) (w : World) (h23 : w.cell? ⟨bp, 23, none⟩ = some (.pointer (some ⟨bc, 0, none⟩))) (z23 : w.frozen? ⟨bp, 23, none⟩ = false) (hne : bc ≠ bp)
    (h13 : w.cell? ⟨bc, 13, none⟩ = some (.chan (some ch))) (h14 : w.cell? ⟨bc, 14, none⟩ = some (.iface t pv)) (hch : w.heap[ch]? = some (.chan 0 #[] true s r tm)) (hcb : ch ≠ bp) :
    Calls Ybad.prog 8 #[.pointer (some ⟨bp, 0, none⟩)] w fun e w' => e = .returned (.iface t pv) ∧ w' = (w.setCell ⟨bp, 23, none⟩ (.pointer none)).alloc (.cells #[.pointer (some ⟨bp, 0, none⟩)] 28) := by
  have hb : bp < w.heap.size := World.block_lt_of_cell? w _ h23
  have hbc : bc < w.heap.size := World.block_lt_of_cell? w _ h13
  have hchl : ch < w.heap.size := (Array.getElem?_eq_some_iff.1 hch).1
  go_enter Ybad.func8, Ybad.ntmps8
  go_wp2_with fail
  refine (wait_closed bc ch s r tm (.iface t pv) _ ?_ ?_ ?_).mono ?_
  · rw [World.cell?_alloc_past (w := w.setCell ⟨bp, 23, none⟩ (.pointer none)) _ bc 13 (by simpa [World.setCell] using hbc), World.cell?_setCell_other _ _ _ _ (fun e => hne (congrArg Addr.block e).symm)]
    exact h13
  · rw [World.cell?_alloc_past (w := w.setCell ⟨bp, 23, none⟩ (.pointer none)) _ bc 14 (by simpa [World.setCell] using hbc), World.cell?_setCell_other _ _ _ _ (fun e => hne (congrArg Addr.block e).symm)]
    exact h14
  · rw [Below.heap_alloc _ _ _ (by simpa [World.setCell] using hchl), Below.heap_setCell _ _ _ _ hcb]
    exact hch
  rintro e w' ⟨rfl, rfl⟩
  go_wp2
  go_ret
  exact ⟨rfl, rfl⟩

end Go.Proofs.YbulkcuksDoor
