/-
  The law's new things: frames, cache, index, pager, three tables.
-/
import Derived.Test.YbulkcuksBook
namespace Go.Proofs.Ybulkcuks
open Go.RowKit Go.Shelf

/-- a new cache's cells -/
def cCells (fb : Nat) : Array Value := #[.pointer (some ⟨fb, 0, none⟩), .pointer none, .nilFunc, .nilFunc, .pointer none, .pointer none, .bool false, .int .i64 0, .chan none, .int .u64 0, .int .u32 0, .int .u32 0]

/-- frames, cache, index -/
noncomputable def V1 (w : World) : World := (inited ((w.alloc (.cells Yba.zeroCells48 48)).alloc (.cells (cCells w.heap.size) 65)) (w.heap.size + 1)).drew

def isU64z : Option Value → Bool
  | some (.int .u64 n) => n == 0
  | _ => false

theorem isU64z_eq {v : Option Value} (h : isU64z v = true) : v = some (.int .u64 0) := by
  unfold isU64z at h
  split at h
  · rename_i n
    rw [beq_iff_eq] at h
    rw [h]
  · cases h

theorem zero48_slots (i : Nat) (hi : i < 64) : Yba.zeroCells48[37 + i * 57]? = some (.int .u64 0) := by
  have hall : ((List.range 64).all fun i => isU64z Yba.zeroCells48[37 + i * 57]?) = true := by kernel_rfl
  exact isU64z_eq (List.all_eq_true.1 hall i (List.mem_range.2 hi))

theorem zero84 : Yba.zeroCells84 = wrow noPg := by kernel_rfl

theorem cache_new (w : World) : CacheAt (V1 w) (w.heap.size + 1) w.heap.size (w.heap.size + 3) (w.heap.size + 2) 0 ∧ Below w.heap.size w (V1 w) ∧ (V1 w).heap.size = w.heap.size + 4 := by
  obtain ⟨u, hu⟩ : ∃ u, u = (w.alloc (.cells Yba.zeroCells48 48)).alloc (.cells (cCells w.heap.size) 65) := ⟨_, rfl⟩
  have e1 : (w.alloc (.cells Yba.zeroCells48 48)).heap.size = w.heap.size + 1 := by simp
  have us : u.heap.size = w.heap.size + 2 := by rw [hu]; simp
  have hf : u.heap[w.heap.size]? = some (.cells Yba.zeroCells48 48 (0, 0)) := by
    rw [hu]; exact (Below.heap_alloc _ _ _ (by simp)).trans (heap_alloc_new w _)
  have hc : u.heap[w.heap.size + 1]? = some (.cells (cCells w.heap.size) 65 (0, 0)) := by
    rw [hu, ← e1]; exact heap_alloc_new _ _
  have hbu : Below w.heap.size w u := by rw [hu]; exact ((Below.refl _ _).alloc (Nat.le_refl _) _).alloc (by simp) _
  have hV : V1 w = (inited u (w.heap.size + 1)).drew := by rw [hu]; rfl
  rw [hV]
  clear hV hu
  have q4 : u.cell? ⟨w.heap.size + 1, 4, none⟩ = some (.pointer none) := by rw [cell_of_row u _ 4 _ 65 (0, 0) hc]; rfl
  obtain ⟨x, hx⟩ : ∃ x, x = ((u.setCell ⟨w.heap.size + 1, 4, none⟩ (.pointer (some ⟨u.heap.size + 1, 0, none⟩))).setCell ⟨w.heap.size + 1, 5, none⟩ (.pointer none)).setCell ⟨w.heap.size + 1, 6, none⟩ (.bool false) := ⟨_, rfl⟩
  have xs : x.heap.size = u.heap.size := by rw [hx]; simp [World.setCell]
  have x0 : ∀ j, x.cell? ⟨w.heap.size, j, none⟩ = Yba.zeroCells48[j]? := fun j => by
    rw [hx, cell_blk _ _ _ _ _ _ (by omega), cell_blk _ _ _ _ _ _ (by omega), cell_blk _ _ _ _ _ _ (by omega), cell_of_row u _ j _ 48 (0, 0) hf]
  have xz : ∀ j, x.frozen? ⟨w.heap.size, j, none⟩ = false := fun j => by
    rw [hx, World.frozen?_setCell, World.frozen?_setCell, World.frozen?_setCell]; simp [World.frozen?, hf]
  have xc0 : x.cell? ⟨w.heap.size + 1, 0, none⟩ = some (.pointer (some ⟨w.heap.size, 0, none⟩)) := by
    rw [hx, cell_off _ _ _ _ _ (by decide), cell_off _ _ _ _ _ (by decide), cell_off _ _ _ _ _ (by decide), cell_of_row u _ 0 _ 65 (0, 0) hc]; rfl
  have xc4 : x.cell? ⟨w.heap.size + 1, 4, none⟩ = some (.pointer (some ⟨u.heap.size + 1, 0, none⟩)) := by
    rw [hx, cell_off _ _ _ _ _ (by decide), cell_off _ _ _ _ _ (by decide)]; exact World.cell?_setCell_same _ _ _ q4
  have hbx : Below w.heap.size w x := by rw [hx]; exact ((hbu.setCell (Nat.le_succ _) _).setCell (Nat.le_succ _) _).setCell (Nat.le_succ _) _
  have hI : (inited u (w.heap.size + 1)).drew = ((x.alloc (.cells eCells 42)).alloc (.cells (tCells u.heap.size) 101)).drew := by rw [hx]; rfl
  rw [hI]
  clear hI hx
  have f1 : (x.alloc (.cells eCells 42)).heap.size = w.heap.size + 3 := by simp; omega
  obtain ⟨z, hz⟩ : ∃ z, z = ((x.alloc (.cells eCells 42)).alloc (.cells (tCells u.heap.size) 101)).drew := ⟨_, rfl⟩
  have hbz : Below x.heap.size x z := by rw [hz]; exact (((Below.refl _ _).alloc (Nat.le_refl _) _).alloc (by simp) _).drew
  have ht : z.heap[w.heap.size + 3]? = some (.cells (tCells (w.heap.size + 2)) 101 (0, 0)) := by
    rw [hz, us, ← f1]; exact heap_alloc_new (x.alloc (.cells eCells 42)) _
  have he : z.heap[w.heap.size + 2]? = some (.cells eCells 42 (0, 0)) := by
    rw [hz, ← us, ← xs]; exact (Below.heap_alloc _ _ _ (by simp)).trans (heap_alloc_new x _)
  have zs : z.heap.size = w.heap.size + 4 := by rw [hz]; simp; omega
  rw [← hz]
  clear hz
  have k0 : w.heap.size < x.heap.size := by omega
  have k1 : w.heap.size + 1 < x.heap.size := by omega
  have zc : ∀ j, z.cell? ⟨w.heap.size, j, none⟩ = Yba.zeroCells48[j]? := fun j => (hbz.cell (p := ⟨w.heap.size, j, none⟩) k0).trans (x0 j)
  have zf : ∀ j, z.frozen? ⟨w.heap.size, j, none⟩ = false := fun j => (hbz.frozen (p := ⟨w.heap.size, j, none⟩) k0).trans (xz j)
  refine ⟨⟨(hbz.cell (p := ⟨w.heap.size + 1, 0, none⟩) k1).trans xc0, (hbz.cell (p := ⟨w.heap.size + 1, 4, none⟩) k1).trans (by rw [xc4, us]), ht, he, ?_, zf _, ?_, zf _, fun i hi => ?_⟩, hbx.trans (hbz.mono (by omega)), zs⟩
  · rw [zc]; kernel_rfl
  · rw [zc]; kernel_rfl
  · rw [zc]; exact zero48_slots i hi

theorem new_calls (w : World) : Calls Yba.prog 4 #[.pointer (some ⟨w.heap.size + 1, 4, none⟩)] ((w.alloc (.cells Yba.zeroCells48 48)).alloc (.cells (cCells w.heap.size) 65)) fun e w' => e = .returned (.tuple #[]) ∧
    CacheAt w' (w.heap.size + 1) w.heap.size (w.heap.size + 3) (w.heap.size + 2) 0 ∧ Below w.heap.size w w' ∧ w'.heap.size = w.heap.size + 4 := by
  have e1 : (w.alloc (.cells Yba.zeroCells48 48)).heap.size = w.heap.size + 1 := by simp
  obtain ⟨u, hu⟩ : ∃ u, u = (w.alloc (.cells Yba.zeroCells48 48)).alloc (.cells (cCells w.heap.size) 65) := ⟨_, rfl⟩
  have hc : u.heap[w.heap.size + 1]? = some (.cells (cCells w.heap.size) 65 (0, 0)) := by rw [hu, ← e1]; exact heap_alloc_new _ _
  have h := init_calls u (w.heap.size + 1) _ _ _ (by rw [cell_of_row _ _ 4 _ 65 (0, 0) hc]; rfl) (by rw [cell_of_row _ _ 5 _ 65 (0, 0) hc]; rfl) (by rw [cell_of_row _ _ 6 _ 65 (0, 0) hc]; rfl) (fun j => by simp [World.frozen?, hc])
  have hN := cache_new w
  rw [show V1 w = (inited u (w.heap.size + 1)).drew by rw [hu]; rfl] at hN
  rw [← hu]
  refine h.mono ?_
  rintro e w' ⟨rfl, rfl⟩
  exact ⟨rfl, hN⟩

/-- a new pager's cells -/
def pCells (cb : Nat) : Array Value := #[.pointer none, .pointer (some ⟨cb, 0, none⟩), .int .u64 0, .int .u32 0, .int .u32 0, .int .u32 0, .int .u32 0, .int .i64 0, .slice none 0 0, .int .i64 0, .slice none 0 0, .int .i64 0, .slice none 0 0, .int .i64 0, .int .i64 0, .int .i64 0, .slice none 0 0,
  .int .i64 0, .slice none 0 0, .int .i64 0, .int .i64 0, .int .i64 0, .slice none 0 0, .pointer none, .int .i64 0, .slice none 0 0, .pointer none, .int .u64 0, .slice none 0 0, .int .i32 0, .int .u32 0, .int .u64 0, .slice none 0 0, .slice none 0 0]

/-- behind the tables -/
noncomputable def V0 (u : World) (cb : Nat) : World := (((u.alloc (.cells (pCells cb) 83)).alloc (.cells Yba.zeroCells84 84)).alloc (.cells Yba.zeroCells84 84)).alloc (.cells Yba.zeroCells84 84)

theorem law_new {w u : World} {cb fb tb eb : Nat} (hc : CacheAt u cb fb tb eb 0) (hcb : cb < u.heap.size) (hfb : fb < u.heap.size) (htb : tb < u.heap.size) (heb : eb < u.heap.size) (n1 : cb ≠ fb) (n2 : tb ≠ fb) (n3 : eb ≠ fb) (hw : w.heap.size ≤ u.heap.size) (hB : Below w.heap.size w u) :
    PgS (V0 u cb) u.heap.size cb fb tb eb (u.heap.size + 1) [] noPg noPg noPg 0 ∧ WAt (V0 u cb) (u.heap.size + 1) noPg ∧ WAt (V0 u cb) (u.heap.size + 2) noPg ∧ WAt (V0 u cb) (u.heap.size + 3) noPg ∧ Below w.heap.size w (V0 u cb) ∧ (V0 u cb).heap.size = u.heap.size + 4 := by
  have s1 : (u.alloc (.cells (pCells cb) 83)).heap.size = u.heap.size + 1 := by simp
  have s2 : ((u.alloc (.cells (pCells cb) 83)).alloc (.cells Yba.zeroCells84 84)).heap.size = u.heap.size + 2 := by simp
  have s3 : (((u.alloc (.cells (pCells cb) 83)).alloc (.cells Yba.zeroCells84 84)).alloc (.cells Yba.zeroCells84 84)).heap.size = u.heap.size + 3 := by simp
  have s4 : (V0 u cb).heap.size = u.heap.size + 4 := by simp [V0]
  have b3 := (Below.refl (u.heap.size + 3) (((u.alloc (.cells (pCells cb) 83)).alloc (.cells Yba.zeroCells84 84)).alloc (.cells Yba.zeroCells84 84))).alloc (by omega) (.cells Yba.zeroCells84 84)
  have b2 := ((Below.refl (u.heap.size + 2) ((u.alloc (.cells (pCells cb) 83)).alloc (.cells Yba.zeroCells84 84))).alloc (by omega) (.cells Yba.zeroCells84 84)).trans (b3.mono (by omega))
  have b1 := ((Below.refl (u.heap.size + 1) (u.alloc (.cells (pCells cb) 83))).alloc (by omega) (.cells Yba.zeroCells84 84)).trans (b2.mono (by omega))
  have b0 := ((Below.refl u.heap.size u).alloc (Nat.le_refl _) (.cells (pCells cb) 83)).trans (b1.mono (by omega))
  have hp : (V0 u cb).heap[u.heap.size]? = some (.cells (pCells cb) 83 (0, 0)) := (b1.block _ (by omega)).trans (heap_alloc_new u _)
  have t1 : (V0 u cb).heap[u.heap.size + 1]? = some (.cells Yba.zeroCells84 84 (0, 0)) := by
    have := heap_alloc_new (u.alloc (.cells (pCells cb) 83)) (.cells Yba.zeroCells84 84)
    rw [s1] at this
    exact (b2.block _ (by omega)).trans this
  have t2 : (V0 u cb).heap[u.heap.size + 2]? = some (.cells Yba.zeroCells84 84 (0, 0)) := by
    have := heap_alloc_new ((u.alloc (.cells (pCells cb) 83)).alloc (.cells Yba.zeroCells84 84)) (.cells Yba.zeroCells84 84)
    rw [s2] at this
    exact (b3.block _ (by omega)).trans this
  have t3 : (V0 u cb).heap[u.heap.size + 3]? = some (.cells Yba.zeroCells84 84 (0, 0)) := by
    have := heap_alloc_new (((u.alloc (.cells (pCells cb) 83)).alloc (.cells Yba.zeroCells84 84)).alloc (.cells Yba.zeroCells84 84)) (.cells Yba.zeroCells84 84)
    rw [s3] at this
    exact this
  rw [zero84] at t1 t2 t3
  have hc0 : ∀ j, (V0 u cb).cell? ⟨u.heap.size, j, none⟩ = (pCells cb)[j]? := fun j => by rw [cell_of_row _ _ j _ 83 (0, 0) hp]
  have hz : ∀ j, (V0 u cb).frozen? ⟨u.heap.size, j, none⟩ = false := fun j => by simp [World.frozen?, hp]
  have hfr : FSet (V0 u cb) u.heap.size 21 (u.heap.size + 1) [] noPg := by
    refine ⟨0, [], .slice none 0 0, ⟨by rw [hc0]; rfl, by rw [hc0]; rfl, hz _, hz _, World.ownsRow_nil _ _ _ _, by simp [Value.ownBlock], (fun x hx => by cases hx), by simp⟩, fun x => ?_, rfl⟩
    simp [memB, wordAt, noPg]
  refine ⟨⟨[], [], [], ⟨by rw [hc0]; rfl, PSet.zero (by rw [hc0]; rfl) (by rw [hc0]; rfl) (by rw [hc0]; rfl) (by rw [hc0]; rfl) (by rw [hc0]; rfl) (by rw [hc0]; rfl) hz, PSet.zero (by rw [hc0]; rfl) (by rw [hc0]; rfl) (by rw [hc0]; rfl) (by rw [hc0]; rfl) (by rw [hc0]; rfl) (by rw [hc0]; rfl) hz,
    hfr, hc.keep (fun x hx => b0.block x ?_), by omega, by omega, by omega, by omega, by omega, by omega, by omega, by omega, by omega, n1, n2, n3, (fun x hx => by cases hx), (fun x hx => by cases hx), (fun x hx => by cases hx), by omega⟩, rfl⟩, ⟨84, t1⟩, ⟨84, t2⟩, ⟨84, t3⟩, hB.trans (b0.mono hw), s4⟩
  rcases hx with rfl | rfl | rfl | rfl <;> assumption

end Go.Proofs.Ybulkcuks
