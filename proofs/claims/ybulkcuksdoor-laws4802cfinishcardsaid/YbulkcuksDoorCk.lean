/-
  A new checkpoint; the list of page numbers that the law lays.
-/
import Derived.Test.YbulkcuksDoorBuild
namespace Go.Proofs.YbulkcuksDoor
open Go.RowKit

theorem mk35 (w : World) : (Instr.makeChan 35 (.int .i64 0)).run Ybad.prog w = .ok (.chan (some w.heap.size)) (w.alloc (.chan 0 #[] false 0 0 false)) := by kernel_rfl

/-- the cells of a new checkpoint -/
def ckCells (m0 m1 m2 m3 m4 m5 : Int) (ch : Nat) (ev : Value) : Array Value := #[.int .u64 m0, .int .u32 m1, .int .u32 m2, .int .u32 m3, .int .u32 m4, .int .i64 m5, .int .i64 0, .slice none 0 0, .int .i64 0, .slice none 0 0, .int .i64 0, .int .i64 0, .slice none 0 0, .chan (some ch), ev]

/-- A new checkpoint in block bc, its channel in block ch. -/
structure CkNew (w1 wc : World) (bc ch : Nat) (m0 m1 m2 m3 m4 m5 : Int) (ev : Value) : Prop where
  bel : Below w1.heap.size w1 wc
  bcl : w1.heap.size ≤ bc
  chl : w1.heap.size ≤ ch
  ne : bc ≠ ch
  blt : bc < wc.heap.size
  clt : ch < wc.heap.size
  chan : wc.heap[ch]? = some (.chan 0 #[] false 0 0 false)
  cells : wc.heap[bc]? = some (.cells (ckCells m0 m1 m2 m3 m4 m5 ch ev) 45 (0, 0))

/-- n new page numbers -/
def lrow (n : Nat) : Array Value := madeCells #[.int .u32 0] n
theorem lrow_size (n : Nat) : (lrow n).size = n := size_madeCells _ _
theorem run_make41 (n : Nat) (h : n ≤ 1000000) (w : World) : (Instr.makeSlice 41 (.int .i64 (n : Int)) (.int .i64 (n : Int))).run Ybad.prog w = .ok (.slice (some ⟨w.heap.size, 0, none⟩) n n) (w.alloc (.cells (lrow n) 31)) := by
  have hinfo : (Ybad.prog.info? 31).map (fun i => (i.zero, i.size, i.bytes)) = some (some (.int .u32 0), 1, 4) := by kernel_rfl
  exact run_make_row' 41 31 (.int .u32 0) 4 Ybad.underlying41 hinfo rfl .i64 .i64 n (by omega) (by omega) w

/-- Block lb: n cells, the first ones hold the pages of l. -/
structure LAt (w : World) (lb n : Nat) (l : List Nat) : Prop where
  there : ∀ j, j < n → (w.cell? ⟨lb, j, none⟩).isSome = true
  frz : ∀ j, w.frozen? ⟨lb, j, none⟩ = false
  val : ∀ j, j < l.length → w.cell? ⟨lb, j, none⟩ = some (.int .u32 (l.getD j 0 : Nat))

theorem LAt.set {w : World} {lb n k y : Nat} {l : List Nat} (h : LAt w lb n l) (hk : k = l.length) (hlt : k < n) : LAt (w.setCell ⟨lb, k, none⟩ (.int .u32 (y : Int))) lb n (l ++ [y]) := by
  obtain ⟨v, hv⟩ := Option.isSome_iff_exists.1 (h.there k hlt)
  refine ⟨fun j hj => ?_, fun j => by rw [World.frozen?_setCell]; exact h.frz j, fun j hj => ?_⟩
  · by_cases e : k = j
    · subst e; rw [World.cell?_setCell_same _ _ _ hv]; rfl
    · rw [World.cell?_setCell_other _ _ _ _ (addr_ne (.inr e))]; exact h.there j hj
  · simp only [List.length_append, List.length_cons, List.length_nil] at hj
    by_cases e : k = j
    · subst e
      rw [World.cell?_setCell_same _ _ _ hv, List.getD_eq_getElem?_getD, List.getElem?_append_right (by omega), hk]
      simp
    · rw [World.cell?_setCell_other _ _ _ _ (addr_ne (.inr e)), h.val j (by omega), List.getD_eq_getElem?_getD, List.getD_eq_getElem?_getD, List.getElem?_append_left (by omega)]

theorem LAt.keep {w w' : World} {lb n : Nat} {l : List Nat} (h : LAt w lb n l) (hb : w'.heap[lb]? = w.heap[lb]?) : LAt w' lb n l :=
  ⟨fun j hj => by rw [World.cell?_of_block (a := ⟨lb, j, none⟩) hb]; exact h.there j hj, fun j => (World.frozen?_of_block (a := ⟨lb, j, none⟩) hb).trans (h.frz j), fun j hj => (World.cell?_of_block (a := ⟨lb, j, none⟩) hb).trans (h.val j hj)⟩

theorem LAt.new (w : World) (n : Nat) : LAt (w.alloc (.cells (lrow n) 31)) w.heap.size n [] :=
  ⟨fun j hj => by rw [World.cell?_alloc_at (w := w) _ _ w.heap.size j rfl, Array.getElem?_eq_getElem (by rw [lrow_size]; exact hj)]; rfl, fun j => World.frozen?_alloc_at (w := w) _ _ w.heap.size j rfl, fun j hj => by simp at hj⟩

theorem ck_cell {w1 wc : World} {bc ch : Nat} {m0 m1 m2 m3 m4 m5 : Int} {ev : Value} (h : CkNew w1 wc bc ch m0 m1 m2 m3 m4 m5 ev) (j : Nat) : wc.cell? ⟨bc, j, none⟩ = (ckCells m0 m1 m2 m3 m4 m5 ch ev)[j]? := by
  rw [cell_of_row wc bc j _ 45 (0, 0) h.cells]

theorem ck_zero {w1 wc : World} {bc ch : Nat} {m0 m1 m2 m3 m4 m5 : Int} {ev : Value} (h : CkNew w1 wc bc ch m0 m1 m2 m3 m4 m5 ev) (base : Nat) : PSet wc bc 6 base [] noPg := by
  have hz : ∀ j, wc.frozen? ⟨bc, j, none⟩ = false := fun j => by simp [World.frozen?, h.cells]
  exact PSet.zero (by rw [ck_cell h]; rfl) (by rw [ck_cell h]; rfl) (by rw [ck_cell h]; rfl) (by rw [ck_cell h]; rfl) (by rw [ck_cell h]; rfl) (by rw [ck_cell h]; rfl) hz

theorem ckA {w1 w2 : World} (m0 m1 m2 m3 m4 m5 : Int) (ev : Value) (hb2 : Below w1.drew.heap.size w1.drew w2) :
    CkNew w1 ((w2.alloc (.chan 0 #[] false 0 0 false)).alloc (.cells (ckCells m0 m1 m2 m3 m4 m5 w2.heap.size ev) 45)) (w2.heap.size + 1) w2.heap.size m0 m1 m2 m3 m4 m5 ev := by
  have hs : w1.heap.size ≤ w2.heap.size := hb2.size
  refine ⟨?_, by omega, hs, by omega, by simp, by simp; omega, ?_, ?_⟩
  · exact (((show Below w1.heap.size w1 w1.drew from (Below.refl _ _).drew).trans hb2).alloc hs _).alloc (by simp; omega) _
  · rw [Below.heap_alloc _ _ _ (by simp)]; exact heap_alloc_new w2 _
  · have := heap_alloc_new (w2.alloc (.chan 0 #[] false 0 0 false)) (.cells (ckCells m0 m1 m2 m3 m4 m5 w2.heap.size ev) 45)
    rwa [World.size_alloc] at this

theorem ckB {w1 w2 : World} (m0 m1 m2 m3 m4 m5 : Int) (ev : Value) (hb2 : Below (w1.alloc (.chan 0 #[] false 0 0 false)).drew.heap.size (w1.alloc (.chan 0 #[] false 0 0 false)).drew w2) :
    CkNew w1 (w2.alloc (.cells (ckCells m0 m1 m2 m3 m4 m5 w1.heap.size ev) 45)) w2.heap.size w1.heap.size m0 m1 m2 m3 m4 m5 ev := by
  have hs : w1.heap.size + 1 ≤ w2.heap.size := by have := hb2.size; simpa using this
  have hc : (w1.alloc (.chan 0 #[] false 0 0 false)).drew.heap.size = w1.heap.size + 1 := by simp
  refine ⟨?_, by omega, Nat.le_refl _, by omega, by simp, by simp; omega, ?_, heap_alloc_new w2 _⟩
  · exact (((((Below.refl _ _).alloc (Nat.le_refl _) _).drew).trans (hb2.mono (by omega))).alloc (by omega) _)
  · rw [Below.heap_alloc _ _ _ (by omega), hb2.block w1.heap.size (by omega)]
    exact heap_alloc_new w1 _

/-- One round of 'lc[i] = id; wantPend[lc[i]] = true'. -/
theorem list_step {V2 wr : World} {lb wp n j y : Nat} {l : List Nat} {N : Nat → Bool} (hL : LAt wr lb n l) (hj : j = l.length) (hlt : j < n) (hwt : WAt wr wp N) (hF : Fr V2 wr lb 0 n [wp]) (hne : wp ≠ lb) (hy : y < 4096) :
    LAt ((wr.setCell ⟨lb, j, none⟩ (.int .u32 (y : Int))).setCell ⟨wp, y, none⟩ (.bool true)) lb n (l ++ [y]) ∧ WAt ((wr.setCell ⟨lb, j, none⟩ (.int .u32 (y : Int))).setCell ⟨wp, y, none⟩ (.bool true)) wp (plus N y) ∧
      Fr V2 ((wr.setCell ⟨lb, j, none⟩ (.int .u32 (y : Int))).setCell ⟨wp, y, none⟩ (.bool true)) lb 0 n [wp] := by
  refine ⟨(hL.set hj hlt).keep (Below.heap_setCell _ _ _ _ (fun e => hne e.symm)), (hwt.keep (Below.heap_setCell _ _ _ _ hne)).set y hy, ?_⟩
  exact (hF.setCell j _ (by omega) (by omega)).setOther wp y _ (by simp) hne

end Go.Proofs.YbulkcuksDoor
