/-
  LawS4818BModel: what build lays.
-/
import Derived.Test.YbulkcutiLow
import Derived.BigRegion
import Derived.Deep.DeepCutAuto
namespace Go.Proofs.Ybulkcuti
open Go.RowKit

theorem run_make_wide {P : Program} (t e : TypeId) (z : Value) (size bytes : Nat) (ht : P.underlying t = some (.slice e)) (hinfo : (P.info? e).map (fun i => (i.zero, i.size, i.bytes)) = some (some z, size, bytes))
    (n : Nat) (hb : bytes * n ≤ 281474976710656) (h63 : n ≤ 9223372036854775807) (w : World) :
    (Instr.makeSlice t (.int .i64 (n : Int)) (.int .i64 (n : Int))).run P w = .ok (.slice (some ⟨w.heap.size, 0, none⟩) n n) (w.alloc (.cells (madeCells z.cells (n * size)) e)) := by
  obtain ⟨i, hi, hzz⟩ := Option.map_eq_some_iff.1 hinfo
  simp only [Prod.mk.injEq] at hzz
  obtain ⟨hz, hs, hbb⟩ := hzz
  have hb' : ((bytes * n : Nat) : Int) ≤ 281474976710656 := by omega
  rw [Int.natCast_mul] at hb'
  have h := run_make w t e i z ht hi hz .i64 .i64 (n : Int) (n : Int) (by omega) (by omega) (by rw [hbb]; exact hb') (by omega)
  rw [hs] at h
  simpa using h

def oCells (n : Nat) : Array Value := madeCells #[.int .i64 0] (n * 1)
def rCells (n : Nat) : Array Value := madeCells #[.string { data := #[] }, .int .i64 0, .slice none 0 0, .int .i64 0, .int .i64 0] (n * 5)
def cCells (n : Nat) : Array Value := madeCells #[.string { data := #[] }, .int .i64 0, .pointer none, .pointer none, .int .i64 0, .int .i64 0] (n * 6)

theorem make_order (n : Nat) (h : n ≤ 1024) (w : World) : (Instr.makeSlice 22 (.int .i64 (n : Int)) (.int .i64 (n : Int))).run Yba.prog w = .ok (.slice (some ⟨w.heap.size, 0, none⟩) n n) (w.alloc (.cells (oCells n) 3)) :=
  run_make_wide 22 3 (.int .i64 0) 1 8 Yba.underlying22 (by kernel_rfl) n (by omega) (by omega) w

theorem make_rolls (n : Nat) (h : n ≤ 1024) (w : World) : (Instr.makeSlice 30 (.int .i64 (n : Int)) (.int .i64 (n : Int))).run Yba.prog w = .ok (.slice (some ⟨w.heap.size, 0, none⟩) n n) (w.alloc (.cells (rCells n) 36)) :=
  run_make_wide 30 36 (.agg #[.string { data := #[] }, .int .i64 0, .slice none 0 0, .int .i64 0, .int .i64 0]) 5 64 Yba.underlying30 (by kernel_rfl) n (by omega) (by omega) w

theorem make_combs (n : Nat) (h : n ≤ 1024) (w : World) : (Instr.makeSlice 31 (.int .i64 (n : Int)) (.int .i64 (n : Int))).run Yba.prog w = .ok (.slice (some ⟨w.heap.size, 0, none⟩) n n) (w.alloc (.cells (cCells n) 40)) :=
  run_make_wide 31 40 (.agg #[.string { data := #[] }, .int .i64 0, .pointer none, .pointer none, .int .i64 0, .int .i64 0]) 6 56 Yba.underlying31 (by kernel_rfl) n (by omega) (by omega) w

theorem made_get (z : Array Value) (n i : Nat) (h : i < n) : (madeCells z n)[i]? = some (z[i % z.size]!) := by
  simp [madeCells, h]

/-- The three rows as build has filled them up to j. -/
structure Lay (w wc : World) (hb ob rb cb n j : Nat) (T : Nat → Int) (m : Nat) (Z : Nat → Int) : Prop where
  below : Below w.heap.size w wc
  go : w.heap.size ≤ ob
  gr : w.heap.size ≤ rb
  gc : w.heap.size ≤ cb
  gh : w.heap.size ≤ hb
  n1 : ob ≠ rb
  n2 : ob ≠ cb
  n3 : rb ≠ cb
  n4 : hb ≠ ob
  n5 : hb ≠ rb
  n6 : hb ≠ cb
  c0 : wc.cell? ⟨hb, 0, none⟩ = some (.slice (some ⟨ob, 0, none⟩) n n)
  c1 : wc.cell? ⟨hb, 1, none⟩ = some (.slice (some ⟨rb, 0, none⟩) n n)
  c2 : wc.cell? ⟨hb, 2, none⟩ = some (.slice (some ⟨cb, 0, none⟩) n n)
  ho : ∃ f, wc.rowIs ob 3 (n * 1) f ∧ ∀ k, k < j → f k = .int .i64 ((n - 1 - k : Nat) : Int)
  hr : ∃ f, wc.rowIs rb 36 (n * 5) f ∧ ∀ k, k < j → f (k * 5 + 4) = .int .i64 (T k)
  hc : ∃ f, wc.rowIs cb 40 (n * 6) f ∧ ∀ k, k < n → f (k * 6 + 5) = .int .i64 (if k < j then tieOf m Z k else 0)

/-- What build lays before its loop. -/
theorem lay_start {w wc : World} {hb ob rb cb n : Nat} (T : Nat → Int) (m : Nat) (Z : Nat → Int) (hB : Below w.heap.size w wc) (go : w.heap.size ≤ ob) (gr : w.heap.size ≤ rb) (gc : w.heap.size ≤ cb) (gh : w.heap.size ≤ hb)
    (n1 : ob ≠ rb) (n2 : ob ≠ cb) (n3 : rb ≠ cb) (n4 : hb ≠ ob) (n5 : hb ≠ rb) (n6 : hb ≠ cb)
    (ho : wc.heap[ob]? = some (.cells (oCells n) 3 (0, 0))) (hr : wc.heap[rb]? = some (.cells (rCells n) 36 (0, 0))) (hc : wc.heap[cb]? = some (.cells (cCells n) 40 (0, 0)))
    (hh : wc.heap[hb]? = some (.cells #[.slice (some ⟨ob, 0, none⟩) n n, .slice (some ⟨rb, 0, none⟩) n n, .slice (some ⟨cb, 0, none⟩) n n] 33 (0, 0))) : Lay w wc hb ob rb cb n 0 T m Z := by
  refine ⟨hB, go, gr, gc, gh, n1, n2, n3, n4, n5, n6, ?_, ?_, ?_, ⟨_, ⟨_, ho, size_madeCells _ _, fun i hi => made_get _ _ _ hi⟩, fun k hk => by omega⟩, ⟨_, ⟨_, hr, size_madeCells _ _, fun i hi => made_get _ _ _ hi⟩, fun k hk => by omega⟩,
    ⟨_, ⟨_, hc, size_madeCells _ _, fun i hi => made_get _ _ _ hi⟩, fun k _ => ?_⟩⟩
  · rw [cell_of_row wc hb 0 _ 33 (0, 0) hh]; rfl
  · rw [cell_of_row wc hb 1 _ 33 (0, 0) hh]; rfl
  · rw [cell_of_row wc hb 2 _ 33 (0, 0) hh]; rfl
  · have h : (k * 6 + 5) % 6 = 5 := by omega
    simp [h]

theorem set_other (W : World) (b o b2 o2 : Nat) (v : Value) (h : b2 ≠ b) : (W.setCell ⟨b, o, none⟩ v).cell? ⟨b2, o2, none⟩ = W.cell? ⟨b2, o2, none⟩ :=
  World.cell?_setCell_other _ _ _ _ (fun e => h (congrArg Addr.block e).symm)

/-- One round, no ties. -/
theorem Lay.step0 {w wr : World} {hb ob rb cb n j : Nat} {T : Nat → Int} {Z : Nat → Int} (h : Lay w wr hb ob rb cb n j T 0 Z) (hj : j < n) :
    Lay w ((wr.setCell ⟨ob, j, none⟩ (.int .i64 ((n : Int) - 1 - j))).setCell ⟨rb, j * 5 + 4, none⟩ (.int .i64 (T j))).drew hb ob rb cb n (j + 1) T 0 Z := by
  obtain ⟨hbel, go, gr, gc, gh, n1, n2, n3, n4, n5, n6, c0, c1, c2, ⟨fo, ho, eo⟩, ⟨fr, hr, er⟩, ⟨fc, hc, ec⟩⟩ := h
  refine ⟨((hbel.setCell go _).setCell gr _).drew, go, gr, gc, gh, n1, n2, n3, n4, n5, n6, ?_, ?_, ?_, ⟨_, ((ho.set j _).setOther n1 _).drew, fun k hk => ?_⟩, ⟨_, ((hr.setOther n1.symm _).set (j * 5 + 4) _).drew, fun k hk => ?_⟩, ⟨_, ((hc.setOther n2.symm _).setOther n3.symm _).drew, fun k hk => ?_⟩⟩
  · rw [World.cell?_drew, set_other _ _ _ _ _ _ n5, set_other _ _ _ _ _ _ n4]; exact c0
  · rw [World.cell?_drew, set_other _ _ _ _ _ _ n5, set_other _ _ _ _ _ _ n4]; exact c1
  · rw [World.cell?_drew, set_other _ _ _ _ _ _ n5, set_other _ _ _ _ _ _ n4]; exact c2
  · by_cases e : k = j
    · rw [if_pos e]; exact congrArg (Value.int .i64) (by omega)
    · rw [if_neg e]; exact eo k (by omega)
  · by_cases e : k = j
    · subst e; rw [if_pos rfl]
    · rw [if_neg (by omega)]; exact er k (by omega)
  · rw [ec k hk]
    have t0 : tieOf 0 Z k = 0 := rfl
    rw [t0, ite_self, ite_self]

/-- One round with ties. -/
theorem Lay.step1 {w wr : World} {hb ob rb cb n j : Nat} {T : Nat → Int} {m : Nat} {Z : Nat → Int} (h : Lay w wr hb ob rb cb n j T m Z) (hj : j < n) (hm : m ≠ 0) :
    Lay w (((wr.setCell ⟨ob, j, none⟩ (.int .i64 ((n : Int) - 1 - j))).setCell ⟨rb, j * 5 + 4, none⟩ (.int .i64 (T j))).setCell ⟨cb, j * 6 + 5, none⟩ (.int .i64 (Z (j % m)))).drew.drew hb ob rb cb n (j + 1) T m Z := by
  obtain ⟨hbel, go, gr, gc, gh, n1, n2, n3, n4, n5, n6, c0, c1, c2, ⟨fo, ho, eo⟩, ⟨fr, hr, er⟩, ⟨fc, hc, ec⟩⟩ := h
  refine ⟨((((hbel.setCell go _).setCell gr _).setCell gc _).drew).drew, go, gr, gc, gh, n1, n2, n3, n4, n5, n6, ?_, ?_, ?_, ⟨_, (((ho.set j _).setOther n1 _).setOther n2 _).drew.drew, fun k hk => ?_⟩, ⟨_, (((hr.setOther n1.symm _).set (j * 5 + 4) _).setOther n3 _).drew.drew, fun k hk => ?_⟩, ⟨_, (((hc.setOther n2.symm _).setOther n3.symm _).set (j * 6 + 5) _).drew.drew, fun k hk => ?_⟩⟩
  · rw [World.cell?_drew, World.cell?_drew, set_other _ _ _ _ _ _ n6, set_other _ _ _ _ _ _ n5, set_other _ _ _ _ _ _ n4]; exact c0
  · rw [World.cell?_drew, World.cell?_drew, set_other _ _ _ _ _ _ n6, set_other _ _ _ _ _ _ n5, set_other _ _ _ _ _ _ n4]; exact c1
  · rw [World.cell?_drew, World.cell?_drew, set_other _ _ _ _ _ _ n6, set_other _ _ _ _ _ _ n5, set_other _ _ _ _ _ _ n4]; exact c2
  · by_cases e : k = j
    · rw [if_pos e]; exact congrArg (Value.int .i64) (by omega)
    · rw [if_neg e]; exact eo k (by omega)
  · by_cases e : k = j
    · subst e; rw [if_pos rfl]
    · rw [if_neg (by omega)]; exact er k (by omega)
  · by_cases e : k = j
    · subst e; rw [if_pos rfl, if_pos (by omega), tieOf_pos hm]
    · rw [if_neg (by omega), ec k hk]
      by_cases hk2 : k < j
      · rw [if_pos hk2, if_pos (by omega)]
      · rw [if_neg hk2, if_neg (by omega)]

theorem Lay.built {w wc : World} {hb ob rb cb n : Nat} {T : Nat → Int} {m : Nat} {Z : Nat → Int} (h : Lay w wc hb ob rb cb n n T m Z) : Built wc hb ob rb cb n T (tieOf m Z) := by
  obtain ⟨_, _, _, _, _, _, _, _, _, _, _, c0, c1, c2, ⟨fo, ho, eo⟩, ⟨fr, hr, er⟩, ⟨fc, hc, ec⟩⟩ := h
  refine ⟨c0, c1, c2, fun k hk => ?_, fun k hk => ?_, fun k hk => ?_⟩
  · rw [ho.cell (by omega), eo k hk]
  · rw [hr.cell (by omega), er k hk]
  · rw [hc.cell (by omega), ec k hk, if_pos hk]

theorem below4 (w : World) (a b c d : Obj) : Below w.heap.size w ((((w.alloc a).alloc b).alloc c).alloc d).drew :=
  ((((Below.refl _ _).alloc (Nat.le_refl _) _).alloc (by simp) _).alloc (by simp; omega) _).alloc (by simp; omega) _ |>.drew

theorem heap4 (w : World) (a b c d : Obj) : (((((w.alloc a).alloc b).alloc c).alloc d).drew).heap[w.heap.size]? = some a ∧ (((((w.alloc a).alloc b).alloc c).alloc d).drew).heap[w.heap.size + 1]? = some b ∧
    (((((w.alloc a).alloc b).alloc c).alloc d).drew).heap[w.heap.size + 1 + 1]? = some c ∧ (((((w.alloc a).alloc b).alloc c).alloc d).drew).heap[w.heap.size + 1 + 1 + 1]? = some d := by
  have e1 : (w.alloc a).heap.size = w.heap.size + 1 := by simp
  have e2 : ((w.alloc a).alloc b).heap.size = w.heap.size + 1 + 1 := by simp
  have e3 : (((w.alloc a).alloc b).alloc c).heap.size = w.heap.size + 1 + 1 + 1 := by simp
  have d1 : ∀ k, k < w.heap.size + 1 + 1 + 1 → (((((w.alloc a).alloc b).alloc c).alloc d).drew).heap[k]? = (((w.alloc a).alloc b).alloc c).heap[k]? := fun k hk => Below.heap_alloc _ d k (by rw [e3]; exact hk)
  have d2 : ∀ k, k < w.heap.size + 1 + 1 → (((w.alloc a).alloc b).alloc c).heap[k]? = ((w.alloc a).alloc b).heap[k]? := fun k hk => Below.heap_alloc _ c k (by rw [e2]; exact hk)
  have d3 : ∀ k, k < w.heap.size + 1 → ((w.alloc a).alloc b).heap[k]? = (w.alloc a).heap[k]? := fun k hk => Below.heap_alloc _ b k (by rw [e1]; exact hk)
  refine ⟨?_, ?_, ?_, ?_⟩
  · rw [d1 _ (by omega), d2 _ (by omega), d3 _ (by omega)]; exact heap_alloc_new w a
  · rw [d1 _ (by omega), d2 _ (by omega), ← e1]; exact heap_alloc_new (w.alloc a) b
  · rw [d1 _ (by omega), ← e2]; exact heap_alloc_new ((w.alloc a).alloc b) c
  · rw [← e3]; exact heap_alloc_new (((w.alloc a).alloc b).alloc c) d

theorem build_calls (x : Addr) (n cap0 : Nat) (T : Nat → Int) (a1 : Option Addr) (m cap1 : Nat) (Z : Nat → Int) (w : World) (hn : n ≤ 1024) (hm : m ≤ 1024) (hx : x.block < w.heap.size)
    (h0 : ∀ k, k < n → w.cell? (x.add k) = some (.int .i64 (T k))) (h1 : ∀ k, k < m → ∃ y, a1 = some y ∧ y.block < w.heap.size ∧ w.cell? (y.add k) = some (.int .i64 (Z k))) :
    Calls Yba.prog 5 #[.slice (some x) n cap0, .slice a1 m cap1] w fun e w' => ∃ hb ob rb cb, e = .returned (.pointer (some ⟨hb, 0, none⟩)) ∧ Lay w w' hb ob rb cb n n T m Z := by
  have mo := make_order n hn
  have mr := make_rolls n hn
  have mc := make_combs n hn
  have H0 := hid h0
  have H1 := hid h1
  have HN := hid hn
  have HM := hid hm
  have HX := hid hx
  clear h0 h1 hn hm hx
  go_enter Yba.func5, Yba.ntmps5
  go_wp2_with (fail)
  go_cut [6] (fun v wc => ∃ hb ob rb cb, v = .pointer (some ⟨hb, 0, none⟩) ∧ Lay w wc hb ob rb cb n 0 T m Z)
  case first =>
    go_region
    all_goals go_wp2_with (fail)
    all_goals
      go_meet
      refine ⟨_, _, _, _, rfl, lay_start T m Z (below4 _ _ _ _ _) ?_ ?_ ?_ ?_ ?_ ?_ ?_ ?_ ?_ ?_ ?_ ?_ ?_ (heap4 _ _ _ _ _).2.2.2⟩
      all_goals first | exact (heap4 _ _ _ _ _).1 | exact (heap4 _ _ _ _ _).2.1 | exact (heap4 _ _ _ _ _).2.2.1 | omega
  case rest =>
    obtain ⟨hb, ob, rb, cb, rfl, hL⟩ := hcut
    have HL := hid hL
    clear hL mo mr mc
    go_wp2_with (fail)
    go_loopw [7] (fun c wv => ∃ j : Nat, c = .int .i64 j ∧ j ≤ n ∧ Lay w wv hb ob rb cb n j T m Z) (fun c _ => n - (intOf c).toNat)
    case atStart => exact ⟨0, rfl, Nat.zero_le _, HL.out⟩
    case round =>
      obtain ⟨j, rfl, hj, hL⟩ := hrel
      have HK := hid hL
      obtain ⟨hbel, go, gr, gc, gh, n1, n2, n3, n4, n5, n6, c0, c1, c2, ⟨fo, ho, _⟩, ⟨fr, hr, _⟩, ⟨fc, hc, _⟩⟩ := hL
      by_cases hjn : j < n
      · have h3 : (j : Int) < n := by omega
        have hn4 : (n : Int) ≤ 1024 := by have := HN.out; omega
        have hm4 : (m : Int) ≤ 1024 := by have := HM.out; omega
        have k1 := ho.cell (i := j) (by omega)
        have z1 := ho.frozen j
        have k2 := hr.cell (i := j * 5 + 4) (by omega)
        have z2 := hr.frozen (j * 5 + 4)
        have k3 := hc.cell (i := j * 6 + 5) (by omega)
        have z3 := hc.frozen (j * 6 + 5)
        have kt : wr.cell? (x.add j) = some (.int .i64 (T j)) := (hbel.cell (p := x.add j) (by rw [add_block]; exact HX.out)).trans (H0.out j hjn)
        have m1 : ¬ ob = rb := n1
        have m2 : ¬ ob = cb := n2
        have m3 : ¬ rb = cb := n3
        have m4 : ¬ hb = ob := n4
        have m5 : ¬ hb = rb := n5
        have m6 : ¬ hb = cb := n6
        have hs0 : ∀ (W : World) (a : Addr) (b o : Nat) (v : Value), a.block < w.heap.size → w.heap.size ≤ b → (W.setCell ⟨b, o, none⟩ v).cell? a = W.cell? a := fun W a b o v h1 h2 =>
          World.cell?_setCell_other _ _ _ _ (fun e => by have := congrArg Addr.block e; dsimp only at this; omega)
        have kt2 : ∀ v, (wr.setCell ⟨ob, j, none⟩ v).cell? (x.add j) = some (.int .i64 (T j)) := fun v => (hs0 _ _ _ _ _ (by rw [add_block]; exact HX.out) go).trans kt
        have kz : m ≠ 0 → ∃ y, a1 = some y ∧ ∀ v v2, ((wr.setCell ⟨ob, j, none⟩ v).setCell ⟨rb, j * 5 + 4, none⟩ v2).cell? (y.add (j % m)) = some (.int .i64 (Z (j % m))) := fun hm0 => by
          obtain ⟨y, e, hy, hcell⟩ := H1.out (j % m) (Nat.mod_lt _ (by omega))
          refine ⟨y, e, fun v v2 => ?_⟩
          rw [hs0 _ _ _ _ _ (by rw [add_block]; exact hy) gr, hs0 _ _ _ _ _ (by rw [add_block]; exact hy) go, hbel.cell (p := y.add (j % m)) (by rw [add_block]; exact hy)]
          exact hcell
        have HZ := hid kz
        clear hs0 kz
        clear n1 n2 n3 n4 n5 n6 hbel go gr gc gh ho hr hc
        go_wp2_with (fail)
        go_region
        all_goals
          by_cases hm0 : m = 0
          · subst hm0
            go_wp2_with (fail)
            go_roundw
            case rel => exact ⟨j + 1, by go_num, by omega, HK.out.step0 hjn⟩
            case measure => simp [intOf]; omega
          · obtain ⟨y, rfl, ky⟩ := HZ.out hm0
            have hm1 : (0 : Int) < m := by omega
            have b1 : 0 ≤ (j : Int) % m := Int.emod_nonneg _ (by omega)
            have b2 : (j : Int) % m < m := Int.emod_lt_of_pos _ hm1
            go_wp2_with (fail)
            go_region
            all_goals
              go_wp2_with (fail)
              go_roundw
              case rel => exact ⟨j + 1, by go_num, by omega, HK.out.step1 hjn hm0⟩
              case measure => simp [intOf]; omega
      · obtain rfl : j = n := by omega
        go_wp2_with (fail)
        go_ret
        exact ⟨_, _, _, _, rfl, HK.out⟩

end Go.Proofs.Ybulkcuti
