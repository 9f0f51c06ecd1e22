/-
  pageIndex.init on a new cache; pageSet.has, pageSet.len; the fresh set's set.
-/
import Derived.Test.YbulkcuksUn
import Derived.Deep.RegionWith
namespace Go.Proofs.Ybulkcuks
open Go.RowKit

/-- the world behind init of the cache at cb -/
def inited (w : World) (cb : Nat) : World :=
  ((((w.setCell ⟨cb, 4, none⟩ (.pointer (some ⟨w.heap.size + 1, 0, none⟩))).setCell ⟨cb, 5, none⟩ (.pointer none)).setCell ⟨cb, 6, none⟩ (.bool false)).alloc (.cells eCells 42)).alloc (.cells (tCells w.heap.size) 101)

theorem init_calls (w : World) (cb : Nat) (x4 x5 x6 : Value) (h4 : w.cell? ⟨cb, 4, none⟩ = some x4) (h5 : w.cell? ⟨cb, 5, none⟩ = some x5) (h6 : w.cell? ⟨cb, 6, none⟩ = some x6) (hz : ∀ j, w.frozen? ⟨cb, j, none⟩ = false) :
    Calls Yba.prog 4 #[.pointer (some ⟨cb, 4, none⟩)] w fun e w' => e = .returned (.tuple #[]) ∧ w' = (inited w cb).drew := by
  have hcb : cb < w.heap.size := World.block_lt_of_cell? w ⟨cb, 4, none⟩ h4
  have HN : Hid (Calls Yba.prog 13 #[.int .i64 64] w.drew fun e w' => e = .returned (.pointer (some ⟨w.heap.size + 1, 0, none⟩)) ∧ w' = ((w.alloc (.cells eCells 42)).alloc (.cells (tCells w.heap.size) 101)).drew) := newtab_calls w.drew
  have k4 : ((w.alloc (.cells eCells 42)).alloc (.cells (tCells w.heap.size) 101)).drew.cell? ⟨cb, 4, none⟩ = some x4 := (Below.cell (p := ⟨cb, 4, none⟩) ((((Below.refl w.heap.size w).alloc (Nat.le_refl _) (.cells eCells 42)).alloc (by simp) (.cells (tCells w.heap.size) 101)).drew) hcb).trans h4
  have z4 : ((w.alloc (.cells eCells 42)).alloc (.cells (tCells w.heap.size) 101)).drew.frozen? ⟨cb, 4, none⟩ = false := (Below.frozen (p := ⟨cb, 4, none⟩) ((((Below.refl w.heap.size w).alloc (Nat.le_refl _) (.cells eCells 42)).alloc (by simp) (.cells (tCells w.heap.size) 101)).drew) hcb).trans (hz 4)
  have t0 : ((w.alloc (.cells eCells 42)).alloc (.cells (tCells w.heap.size) 101)).drew.cell? ⟨w.heap.size + 1, 0, none⟩ = some (.slice (some ⟨w.heap.size, 0, none⟩) 64 64) := by
    have e1 : (w.alloc (.cells eCells 42)).heap.size = w.heap.size + 1 := by simp
    have hb : ((w.alloc (.cells eCells 42)).alloc (.cells (tCells w.heap.size) 101)).drew.heap[w.heap.size + 1]? = some (.cells (tCells w.heap.size) 101 (0, 0)) := by rw [← e1]; exact heap_alloc_new (w.alloc (.cells eCells 42)) _
    rw [cell_of_row _ (w.heap.size + 1) 0 _ 101 (0, 0) hb]; rfl
  have HS := hid (pstore_calls cb 4 (w.heap.size + 1) x4 _ _ k4 z4 t0)
  clear k4 z4 t0
  go_enter Yba.func4, Yba.ntmps4
  go_wp2_with (fail)
  go_region_with (first
    | (go_at_call 13; refine HN.out.mono ?_; rintro e w2 ⟨rfl, rfl⟩)
    | (go_at_call 12; refine HS.out.mono ?_; rintro e w3 ⟨rfl, rfl⟩))
  all_goals go_wp2_with (fail)
  all_goals (go_end0; exact ⟨rfl, rfl⟩)

theorem phas_calls (w : World) (pb o base id : Nat) (own : List Nat) (M : Nat → Bool) (h : PSet w pb o base own M) (hi : id < 4096) :
    Calls Yba.prog 10 #[.pointer (some ⟨pb, o, none⟩), .int .u32 id] w fun e w' => e = .returned (.bool (M id)) ∧ Below w.heap.size w w' := by
  obtain ⟨f1, ws1, v1, f2, ws2, v2, h1, h2, c4, z4, c5, z5, hM, o1, o2, hd, ho⟩ := h
  have HB := hid h1
  have e0 := h1.c0
  have e1 := h1.c1
  have hbd := h1.bd
  have hmem : memB f1 ws1 id = M id := hM id
  clear h1 h2 c4 z4 c5 z5 hM o1 o2 hd ho
  go_enter Yba.func10, Yba.ntmps10
  go_wp2_with (fail)
  refine (has_any f1 id base v1 ws1 w HB.out.own HB.out.lt (by omega) hi).mono ?_
  rintro e w2 ⟨rfl, hb⟩
  rw [hmem]
  go_wp2_with (fail)
  go_ret
  exact ⟨rfl, hb⟩

theorem plen_calls (w : World) (pb o base : Nat) (own : List Nat) (M : Nat → Bool) (h : PSet w pb o base own M) :
    Calls Yba.prog 11 #[.pointer (some ⟨pb, o, none⟩)] w fun e w' => e = .returned (.int .i64 (countTo M 4096 : Nat)) ∧ w' = w := by
  obtain ⟨f1, ws1, v1, f2, ws2, v2, h1, h2, c4, z4, c5, z5, hM, o1, o2, hd, ho⟩ := h
  clear h1 h2 hM o1 o2 hd ho
  go_enter Yba.func11, Yba.ntmps11
  go_wp2_with (fail)
  go_ret
  exact ⟨rfl, rfl⟩

end Go.Proofs.Ybulkcuks
