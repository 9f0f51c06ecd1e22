/-
  The law's tables ('WAt'), its list ('LAt'), the slices of uint16 that came in ('Row16'); the plain law of the counts.
-/
import Derived.Test.YbulkcuksMid
namespace Go.Proofs.Ybulkcuks
open Go.RowKit Go.Shelf

def noPg : Nat → Bool := fun _ => false

def wrow (N : Nat → Bool) : Array Value := Array.ofFn (n := 512) (fun i => .bool (N i.1))

theorem wrow_size (N : Nat → Bool) : (wrow N).size = 512 := by unfold wrow; exact Array.size_ofFn
theorem wrow_get (N : Nat → Bool) (i : Nat) (h : i < 512) : (wrow N)[i]? = some (.bool (N i)) := by
  rw [Array.getElem?_eq_getElem (by rw [wrow_size]; exact h)]
  unfold wrow
  rw [Array.getElem_ofFn]

theorem wrow_put (N M : Nat → Bool) (i : Nat) (b : Bool) (h : i < 512) (hM : ∀ j, M j = if j = i then b else N j) : (wrow N).setIfInBounds i (.bool b) = wrow M := by
  apply Array.ext_getElem?
  intro j
  rw [Array.getElem?_setIfInBounds, wrow_size]
  by_cases hj : j < 512
  · by_cases e : i = j
    · subst e; rw [if_pos rfl, if_pos h, wrow_get _ _ hj, hM, if_pos rfl]
    · have : j ≠ i := fun q => e q.symm
      rw [if_neg e, wrow_get _ _ hj, wrow_get _ _ hj, hM, if_neg this]
  · by_cases e : i = j
    · omega
    · rw [if_neg e, Array.getElem?_eq_none (by rw [wrow_size]; omega), Array.getElem?_eq_none (by rw [wrow_size]; omega)]

theorem plus_if (N : Nat → Bool) (i j : Nat) : plus N i j = if j = i then true else N j := by
  unfold plus; by_cases e : j = i <;> simp [e]
theorem minus_if (N : Nat → Bool) (i j : Nat) : minus N i j = if j = i then false else N j := by
  unfold minus; by_cases e : j = i <;> simp [e]

/-- Block wb is the table of the pages of N. -/
def WAt (w : World) (wb : Nat) (N : Nat → Bool) : Prop := ∃ t, w.heap[wb]? = some (.cells (wrow N) t (0, 0))

theorem WAt.lt {w : World} {wb : Nat} {N : Nat → Bool} (h : WAt w wb N) : wb < w.heap.size := by
  obtain ⟨t, h⟩ := h; exact (Array.getElem?_eq_some_iff.1 h).1
theorem WAt.cell {w : World} {wb : Nat} {N : Nat → Bool} (h : WAt w wb N) (i : Nat) (hi : i < 512) : w.cell? ⟨wb, i, none⟩ = some (.bool (N i)) := by
  obtain ⟨t, h⟩ := h
  rw [cell_of_row w wb i _ t (0, 0) h, wrow_get _ _ hi]
theorem WAt.frz {w : World} {wb : Nat} {N : Nat → Bool} (h : WAt w wb N) (i : Nat) : w.frozen? ⟨wb, i, none⟩ = false := by
  obtain ⟨t, h⟩ := h
  simp [World.frozen?, h]
theorem WAt.plus {w : World} {wb : Nat} {N : Nat → Bool} (h : WAt w wb N) (i : Nat) (hi : i < 512) : WAt (w.setCell ⟨wb, i, none⟩ (.bool true)) wb (plus N i) := by
  obtain ⟨t, h⟩ := h
  exact ⟨t, by rw [heap_setCell_self w wb i _ _ t (0, 0) h, wrow_put N _ i true hi (plus_if N i)]⟩
theorem WAt.minus {w : World} {wb : Nat} {N : Nat → Bool} (h : WAt w wb N) (i : Nat) (hi : i < 512) : WAt (w.setCell ⟨wb, i, none⟩ (.bool false)) wb (minus N i) := by
  obtain ⟨t, h⟩ := h
  exact ⟨t, by rw [heap_setCell_self w wb i _ _ t (0, 0) h, wrow_put N _ i false hi (minus_if N i)]⟩
theorem WAt.keep {w w' : World} {wb : Nat} {N : Nat → Bool} (h : WAt w wb N) (hb : w'.heap[wb]? = w.heap[wb]?) : WAt w' wb N := by
  obtain ⟨t, h⟩ := h; exact ⟨t, hb.trans h⟩
theorem WAt.below {w w' : World} {wb : Nat} {N : Nat → Bool} (h : WAt w wb N) (hb : Below w.heap.size w w') : WAt w' wb N := h.keep (hb.block _ h.lt)

/-- A slice of uint16 in old memory (its block lies below B): its elements are xs. -/
def Row16 (w : World) (B : Nat) (a : Option Addr) (n : Nat) (xs : List Nat) : Prop :=
  xs.length = n ∧ (∀ x ∈ xs, x < 65536) ∧ ∀ k, k < n → ∃ p : Addr, a = some p ∧ p.block < B ∧ w.cell? (p.add k) = some (.int .u16 (xs.getD k 0 : Nat))

theorem Row16.at {w : World} {B : Nat} {a : Option Addr} {n : Nat} {xs : List Nat} (h : Row16 w B a n xs) {k : Nat} (hk : k < n) :
    xs.getD k 0 < 65536 ∧ ∃ p : Addr, a = some p ∧ p.block < B ∧ w.cell? (p.add k) = some (.int .u16 (xs.getD k 0 : Nat)) := by
  obtain ⟨hl, hx, hc⟩ := h
  refine ⟨?_, hc k hk⟩
  rw [List.getD_eq_getElem?_getD, List.getElem?_eq_getElem (by omega)]
  exact hx _ (List.getElem_mem _)

theorem add_block (p : Addr) (k : Nat) : (p.add k).block = p.block := by unfold Addr.add; split <;> rfl

theorem Row16.below {w w' : World} {B : Nat} {a : Option Addr} {n : Nat} {xs : List Nat} (h : Row16 w B a n xs) (hb : Below B w w') : Row16 w' B a n xs := by
  obtain ⟨hl, hx, hc⟩ := h
  refine ⟨hl, hx, fun k hk => ?_⟩
  obtain ⟨p, e, hp, h⟩ := hc k hk
  exact ⟨p, e, hp, (hb.cell (p := p.add k) (by rw [add_block]; exact hp)).trans h⟩

/-- the pages that a list of numbers names -/
def ids (xs : List Nat) : List Nat := xs.map (· % 512)

theorem ids_take (xs : List Nat) (k : Nat) (hk : k < xs.length) : ids (xs.take (k + 1)) = ids (xs.take k) ++ [xs.getD k 0 % 512] := by
  unfold ids
  rw [List.take_succ_eq_append_getElem hk, List.map_append]
  rw [List.getD_eq_getElem?_getD, List.getElem?_eq_getElem hk]
  rfl

theorem ids_lt (xs : List Nat) : ∀ x ∈ ids xs, x < 512 := by
  intro x hx
  unfold ids at hx
  obtain ⟨y, _, rfl⟩ := List.mem_map.1 hx
  exact Nat.mod_lt _ (by decide)

theorem ids_length (xs : List Nat) : (ids xs).length = xs.length := by unfold ids; exact List.length_map _

/-- Block lb: n cells, the first ones hold the pages of l. -/
structure LAt (w : World) (lb n : Nat) (l : List Nat) : Prop where
  there : ∀ j, j < n → (w.cell? ⟨lb, j, none⟩).isSome = true
  frz : ∀ j, w.frozen? ⟨lb, j, none⟩ = false
  val : ∀ j, j < l.length → w.cell? ⟨lb, j, none⟩ = some (.int .u32 (l.getD j 0 : Nat))

theorem LAt.set {w : World} {lb n k y : Nat} {l : List Nat} (h : LAt w lb n l) (hk : k = l.length) (hlt : k < n) : LAt (w.setCell ⟨lb, k, none⟩ (.int .u32 (y : Int))) lb n (l ++ [y]) := by
  obtain ⟨v, hv⟩ := Option.isSome_iff_exists.1 (h.there k hlt)
  refine ⟨fun j hj => ?_, fun j => by rw [World.frozen?_setCell]; exact h.frz j, fun j hj => ?_⟩
  · by_cases e : k = j
    · subst e; rw [World.cell?_setCell_same _ _ _ hv]; rfl
    · rw [cell_off _ _ _ _ _ e]; exact h.there j hj
  · simp only [List.length_append, List.length_cons, List.length_nil] at hj
    by_cases e : k = j
    · subst e
      rw [World.cell?_setCell_same _ _ _ hv, List.getD_eq_getElem?_getD, List.getElem?_append_right (by omega), hk]
      simp
    · rw [cell_off _ _ _ _ _ e, h.val j (by omega), List.getD_eq_getElem?_getD, List.getD_eq_getElem?_getD, List.getElem?_append_left (by omega)]

theorem LAt.keep {w w' : World} {lb n : Nat} {l : List Nat} (h : LAt w lb n l) (hb : w'.heap[lb]? = w.heap[lb]?) : LAt w' lb n l :=
  ⟨fun j hj => by rw [World.cell?_of_block (a := ⟨lb, j, none⟩) hb]; exact h.there j hj, fun j => (World.frozen?_of_block (a := ⟨lb, j, none⟩) hb).trans (h.frz j), fun j hj => (World.cell?_of_block (a := ⟨lb, j, none⟩) hb).trans (h.val j hj)⟩

def lrow (n : Nat) : Array Value := madeCells #[.int .u32 0] (n * 1)

theorem LAt.new (w : World) (n : Nat) : LAt (w.alloc (.cells (lrow n) 67)) w.heap.size n [] :=
  ⟨fun j hj => by rw [World.cell?_alloc_at (w := w) _ _ w.heap.size j rfl, Array.getElem?_eq_getElem (by unfold lrow; rw [size_madeCells]; omega)]; rfl, fun j => World.frozen?_alloc_at (w := w) _ _ w.heap.size j rfl, fun j hj => by simp at hj⟩

theorem make_list (n : Nat) (h : n ≤ 1000000) (w : World) : (Instr.makeSlice 70 (.int .i64 (n : Int)) (.int .i64 (n : Int))).run Yba.prog w = .ok (.slice (some ⟨w.heap.size, 0, none⟩) n n) (w.alloc (.cells (lrow n) 67)) :=
  run_make_wide 70 67 (.int .u32 0) 1 4 Yba.underlying70 (by kernel_rfl) n (by omega) (by omega) w

/-! ### the plain law -/

theorem st_mem (R0 : Nat → Bool) (L : List Nat) (x : Nat) : ((st R0 L).1 x = true → x ∈ L) ∧ ((st R0 L).2.1 x = true → x ∈ L) := by
  suffices h : ∀ (s : (Nat → Bool) × (Nat → Bool) × (Nat → Bool)), ((L.foldl stp s).1 x = true → s.1 x = true ∨ x ∈ L) ∧ ((L.foldl stp s).2.1 x = true → s.2.1 x = true ∨ x ∈ L) by
    have := h (fun _ => false, fun _ => false, R0)
    refine ⟨fun e => ?_, fun e => ?_⟩
    · rcases this.1 e with q | q
      · cases q
      · exact q
    · rcases this.2 e with q | q
      · cases q
      · exact q
  induction L with
  | nil => intro s; simp
  | cons y L ih =>
    intro s
    simp only [List.foldl_cons, List.mem_cons]
    obtain ⟨h1, h2⟩ := ih (stp s y)
    refine ⟨fun e => ?_, fun e => ?_⟩
    · rcases h1 e with q | q
      · unfold stp at q
        by_cases c : s.2.2 y = true
        · simp only [c, if_true] at q
          rw [plus_if] at q
          by_cases d : x = y
          · exact .inr (.inl d)
          · rw [if_neg d] at q; exact .inl q
        · simp only [c] at q; exact .inl q
      · exact .inr (.inr q)
    · rcases h2 e with q | q
      · unfold stp at q
        by_cases c : s.2.2 y = true
        · simp only [c, if_true] at q; exact .inl q
        · simp only [c] at q
          have q' : plus s.2.1 y x = true := q
          rw [plus_if] at q'
          by_cases d : x = y
          · exact .inr (.inl d)
          · rw [if_neg d] at q'; exact .inl q'
      · exact .inr (.inr q)

theorem countTo_low (M : Nat → Bool) (m : Nat) (h : ∀ x, m ≤ x → M x = false) : ∀ d, countTo M (m + d) = countTo M m
  | 0 => rfl
  | d + 1 => by
    show countTo M (m + d) + (if M (m + d) then 1 else 0) = _
    rw [countTo_low M m h d, h (m + d) (by omega)]
    rfl

theorem count_st (R0 : Nat → Bool) (L : List Nat) (h : ∀ x ∈ L, x < 512) : countTo (st R0 L).1 4096 = countTo (st R0 L).1 512 ∧ countTo (st R0 L).2.1 4096 = countTo (st R0 L).2.1 512 := by
  refine ⟨countTo_low _ 512 (fun x hx => ?_) 3584, countTo_low _ 512 (fun x hx => ?_) 3584⟩
  · cases e : (st R0 L).1 x with
    | false => rfl
    | true => have := h x ((st_mem R0 L x).1 e); omega
  · cases e : (st R0 L).2.1 x with
    | false => rfl
    | true => have := h x ((st_mem R0 L x).2 e); omega

end Go.Proofs.Ybulkcuks
