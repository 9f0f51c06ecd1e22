/-
  The tables of wanted pages ('WAt'), a slice of uint32 that came in ('Row32'), one round of 'set.add(id); want[id] = true'.
-/
import Derived.Test.YbulkcuksDoorFinish
namespace Go.Proofs.YbulkcuksDoor
open Go.RowKit

/-- a fact kept from the walk, its type as it stands -/
theorem hid {p : Prop} (h : p) : Hid p := h

def wrow (N : Nat → Bool) : Array Value := Array.ofFn (n := 4096) (fun i => .bool (N i.1))

theorem wrow_size (N : Nat → Bool) : (wrow N).size = 4096 := by unfold wrow; exact Array.size_ofFn
theorem wrow_get (N : Nat → Bool) (i : Nat) (h : i < 4096) : (wrow N)[i]? = some (.bool (N i)) := by
  rw [Array.getElem?_eq_getElem (by rw [wrow_size]; exact h)]
  unfold wrow
  rw [Array.getElem_ofFn]

theorem wrow_set (N : Nat → Bool) (i : Nat) (h : i < 4096) : (wrow N).setIfInBounds i (.bool true) = wrow (plus N i) := by
  apply Array.ext_getElem?
  intro j
  rw [Array.getElem?_setIfInBounds, wrow_size]
  by_cases hj : j < 4096
  · by_cases e : i = j
    · subst e; rw [if_pos rfl, if_pos h, wrow_get _ _ hj]; simp [plus]
    · rw [if_neg e, wrow_get _ _ hj, wrow_get _ _ hj]
      have : j ≠ i := fun q => e q.symm
      simp [plus, this]
  · by_cases e : i = j
    · omega
    · rw [if_neg e, Array.getElem?_eq_none (by rw [wrow_size]; omega), Array.getElem?_eq_none (by rw [wrow_size]; omega)]

theorem wrow_made : madeCells #[Value.bool false] 4096 = wrow (fun _ => false) := by
  apply Array.ext_getElem?
  intro j
  by_cases hj : j < 4096
  · rw [wrow_get _ _ hj, Array.getElem?_eq_getElem (by rw [size_madeCells]; exact hj)]
    simp [madeCells, Nat.mod_one]
  · rw [Array.getElem?_eq_none (by rw [size_madeCells]; omega), Array.getElem?_eq_none (by rw [wrow_size]; omega)]

/-- Block wb is the table of the pages of N. -/
def WAt (w : World) (wb : Nat) (N : Nat → Bool) : Prop := w.heap[wb]? = some (.cells (wrow N) 4 (0, 0))

theorem WAt.lt {w : World} {wb : Nat} {N : Nat → Bool} (h : WAt w wb N) : wb < w.heap.size := (Array.getElem?_eq_some_iff.1 h).1
theorem WAt.cell {w : World} {wb : Nat} {N : Nat → Bool} (h : WAt w wb N) (i : Nat) (hi : i < 4096) : w.cell? ⟨wb, i, none⟩ = some (.bool (N i)) := by
  rw [cell_of_row w wb i _ 4 (0, 0) h, wrow_get _ _ hi]
theorem WAt.frz {w : World} {wb : Nat} {N : Nat → Bool} (h : WAt w wb N) (i : Nat) : w.frozen? ⟨wb, i, none⟩ = false := by
  unfold WAt at h
  simp [World.frozen?, h]
theorem WAt.set {w : World} {wb : Nat} {N : Nat → Bool} (h : WAt w wb N) (i : Nat) (hi : i < 4096) : WAt (w.setCell ⟨wb, i, none⟩ (.bool true)) wb (plus N i) := by
  unfold WAt
  rw [heap_setCell_self w wb i _ _ 4 (0, 0) h, wrow_set N i hi]
theorem WAt.keep {w w' : World} {wb : Nat} {N : Nat → Bool} (h : WAt w wb N) (hb : w'.heap[wb]? = w.heap[wb]?) : WAt w' wb N := hb.trans h

/-- A slice of uint32 in old memory (its block lies below B): its elements are xs. -/
def Row32 (w : World) (B : Nat) (a : Option Addr) (n : Nat) (xs : List Nat) : Prop :=
  xs.length = n ∧ (∀ x ∈ xs, x < 4294967296) ∧ ∃ b o, (0 < n → a = some ⟨b, o, none⟩ ∧ b < B) ∧ ∀ k, k < n → w.cell? ⟨b, o + k, none⟩ = some (.int .u32 (xs.getD k 0 : Nat))

theorem Row32.at {w : World} {B : Nat} {a : Option Addr} {n : Nat} {xs : List Nat} (h : Row32 w B a n xs) {k : Nat} (hk : k < n) :
    ∃ b o, a = some ⟨b, o, none⟩ ∧ b < B ∧ xs.getD k 0 < 4294967296 ∧ w.cell? ⟨b, o + k, none⟩ = some (.int .u32 (xs.getD k 0 : Nat)) := by
  obtain ⟨hl, hx, b, o, ha, hc⟩ := h
  have := ha (by omega)
  refine ⟨b, o, this.1, this.2, ?_, hc k hk⟩
  rw [List.getD_eq_getElem?_getD, List.getElem?_eq_getElem (by omega)]
  exact hx _ (List.getElem_mem _)

theorem Row32.below {w w' : World} {B : Nat} {a : Option Addr} {n : Nat} {xs : List Nat} (h : Row32 w B a n xs) (hb : Below B w w') : Row32 w' B a n xs := by
  obtain ⟨hl, hx, b, o, ha, hc⟩ := h
  exact ⟨hl, hx, b, o, ha, fun k hk => (hb.cell (p := ⟨b, o + k, none⟩) (ha (by omega)).2).trans (hc k hk)⟩

/-- the pages that a list of numbers names -/
def ids (xs : List Nat) : List Nat := xs.map (· % 4096)

theorem ids_take (xs : List Nat) (k : Nat) (hk : k < xs.length) : ids (xs.take (k + 1)) = ids (xs.take k) ++ [xs.getD k 0 % 4096] := by
  unfold ids
  rw [List.take_succ_eq_append_getElem hk, List.map_append]
  rw [List.getD_eq_getElem?_getD, List.getElem?_eq_getElem hk]
  rfl

theorem ids_lt (xs : List Nat) : ∀ x ∈ ids xs, x < 4096 := by
  intro x hx
  unfold ids at hx
  obtain ⟨y, _, rfl⟩ := List.mem_map.1 hx
  exact Nat.mod_lt _ (by decide)

theorem Fr.setOther {w w' : World} {b o k : Nat} {own : List Nat} (h : Fr w w' b o k own) (x j : Nat) (v : Value) (hx : x ∈ own) (hb : x ≠ b) : Fr w (w'.setCell ⟨x, j, none⟩ v) b o k own :=
  have hB : (w'.setCell ⟨x, j, none⟩ v).heap[b]? = w'.heap[b]? := Below.heap_setCell _ _ _ _ (fun e => hb e.symm)
  ⟨h.os, h.tape, h.output, by simpa [World.setCell] using h.size, fun i hi hib hio => (Below.heap_setCell _ _ _ _ (fun e => hio (by rw [e]; exact hx))).trans (h.block i hi hib hio),
   fun i hi => (World.cell?_of_block (a := ⟨b, i, none⟩) hB).trans (h.cell i hi), fun i => (World.frozen?_of_block (a := ⟨b, i, none⟩) hB).trans (h.frz i)⟩

/-- One round: the page has been added; the table's cell is set. -/
theorem want_step {W wr W3 : World} {bp o base wf id : Nat} {own own' : List Nat} {M N : Nat → Bool} (hP' : PSet W3 bp o base own' (plus M id)) (hw : WAt wr wf N) (hqo : ∀ x ∈ own, W.heap.size ≤ x) (ho' : ∀ x ∈ own', x ∈ own ∨ wr.heap.size ≤ x)
    (hF : Fr W wr bp o 6 [wf]) (hF' : Fr wr W3 bp o 6 own) (hwf : wf < W.heap.size) (hne : wf ≠ bp) (hid : id < 4096) :
    W3.cell? ⟨wf, id, none⟩ = some (.bool (N id)) ∧ W3.frozen? ⟨wf, id, none⟩ = false ∧ PSet (W3.setCell ⟨wf, id, none⟩ (.bool true)) bp o base own' (plus M id) ∧ (∀ x ∈ own', W.heap.size ≤ x) ∧ WAt (W3.setCell ⟨wf, id, none⟩ (.bool true)) wf (plus N id) ∧
      Fr W (W3.setCell ⟨wf, id, none⟩ (.bool true)) bp o 6 [wf] := by
  have hs := hF.size
  have hwo : wf ∉ own := fun hx => by have := hqo wf hx; omega
  have hw3 : WAt W3 wf N := hw.keep (hF'.block wf (by omega) hne hwo)
  have hq' : ∀ x ∈ own', W.heap.size ≤ x := fun x hx => by
    rcases ho' x hx with h | h
    · exact hqo x h
    · omega
  refine ⟨hw3.cell id hid, hw3.frz id, ?_, hq', hw3.set id hid, ?_⟩
  · have hB : (W3.setCell ⟨wf, id, none⟩ (.bool true)).heap[bp]? = W3.heap[bp]? := Below.heap_setCell _ _ _ _ (fun e => hne e.symm)
    exact hP'.keep (fun j _ _ => World.cell?_of_block (a := ⟨bp, j, none⟩) hB) (fun j => World.frozen?_of_block (a := ⟨bp, j, none⟩) hB) (fun x hx => Below.heap_setCell _ _ _ _ (fun e => by have := hq' x hx; have e' : x = wf := e; omega))
  · exact (hF.trans hF' (fun x hx => .inr (hqo x hx))).setOther wf id _ (by simp) hne

theorem run_make_want (w : World) : (Instr.makeSlice 27 (.int .i64 4096) (.int .i64 4096)).run Ybad.prog w = .ok (.slice (some ⟨w.heap.size, 0, none⟩) 4096 4096) (w.alloc (.cells (wrow (fun _ => false)) 4)) := by
  rw [← wrow_made]
  have hinfo : (Ybad.prog.info? 4).map (fun i => (i.zero, i.size, i.bytes)) = some (some (.bool false), 1, 1) := by kernel_rfl
  exact run_make_row' 27 4 (.bool false) 1 Ybad.underlying27 hinfo rfl .i64 .i64 4096 (by omega) (by omega) w

end Go.Proofs.YbulkcuksDoor
