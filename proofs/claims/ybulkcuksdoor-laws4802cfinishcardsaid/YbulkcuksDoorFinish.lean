/-
  finishCheckpoint with a checkpoint that ended without error.
-/
import Derived.Test.YbulkcuksDoorStep
namespace Go.Proofs.YbulkcuksDoor
open Go.RowKit Go.Shelf
attribute [local go_sem] Oper.semAt_some

/-- The pager p (block bp) with the checkpoint c (block bc) in flight, its channel closed, its error nil. -/
structure FinSt (w : World) (bp bc ch base lb : Nat) (m0 m1 m2 m3 m4 m5 : Int) (ownF ownP ownR lst : List Nat) (MF MP R : Nat → Bool) : Prop where
  h23 : w.cell? ⟨bp, 23, none⟩ = some (.pointer (some ⟨bc, 0, none⟩))
  hz : ∀ j, w.frozen? ⟨bp, j, none⟩ = false
  hne : bc ≠ bp
  hm2 : ∀ j, j < 8 → (w.cell? ⟨bp, j, none⟩).isSome = true
  c0 : w.cell? ⟨bc, 0, none⟩ = some (.int .u64 m0)
  c1 : w.cell? ⟨bc, 1, none⟩ = some (.int .u32 m1)
  c2 : w.cell? ⟨bc, 2, none⟩ = some (.int .u32 m2)
  c3 : w.cell? ⟨bc, 3, none⟩ = some (.int .u32 m3)
  c4 : w.cell? ⟨bc, 4, none⟩ = some (.int .u32 m4)
  c5 : w.cell? ⟨bc, 5, none⟩ = some (.int .i64 m5)
  h13 : w.cell? ⟨bc, 13, none⟩ = some (.chan (some ch))
  h14 : w.cell? ⟨bc, 14, none⟩ = some .nilIface
  hch : ∃ s r tm, w.heap[ch]? = some (.chan 0 #[] true s r tm)
  hcb : ch ≠ bp
  free : PSet w bp 9 base ownF MF
  pend : PSet w bp 15 base ownP MP
  rel : PSet w bc 6 base ownR R
  l12 : w.cell? ⟨bc, 12, none⟩ = some (.slice (some ⟨lb, 0, none⟩) lst.length lst.length)
  lcell : ∀ k, k < lst.length → w.cell? ⟨lb, k, none⟩ = some (.int .u32 (lst.getD k 0 : Nat))
  llt : ∀ x ∈ lst, x < 4096
  llen : lst.length ≤ 1024
  lbl : lb < w.heap.size
  lbp : lb ≠ bp
  lbF : lb ∉ ownF
  lbP : lb ∉ ownP
  dFP : ∀ x ∈ ownF, x ∉ ownP
  dRF : ∀ x ∈ ownR, x ∉ ownF
  bpR : bp ∉ ownR
  bcF : bc ∉ ownF
  bcP : bc ∉ ownP
  tab : TabAt w
  pos : 0 < base
  bpb : base ≤ bp
  hbase : base ≤ w.heap.size

/-- What finishCheckpoint leaves. -/
structure FinPost (w w' : World) (bp base : Nat) (m0 m1 m2 m3 m4 m5 : Int) (ownF ownP lst : List Nat) (MF MP R : Nat → Bool) : Prop where
  free : ∃ own, PSet w' bp 9 base own (fun x => MF x || R x)
  pend : ∃ own, PSet w' bp 15 base own (adds MP lst)
  c2 : w'.cell? ⟨bp, 2, none⟩ = some (.int .u64 m0)
  c3 : w'.cell? ⟨bp, 3, none⟩ = some (.int .u32 m1)
  c4 : w'.cell? ⟨bp, 4, none⟩ = some (.int .u32 m2)
  c5 : w'.cell? ⟨bp, 5, none⟩ = some (.int .u32 m3)
  c6 : w'.cell? ⟨bp, 6, none⟩ = some (.int .u32 m4)
  c7 : w'.cell? ⟨bp, 7, none⟩ = some (.int .i64 m5)
  c23 : w'.cell? ⟨bp, 23, none⟩ = some (.pointer none)
  os : w'.os = w.os
  tape : w'.tape = w.tape
  output : w'.output = w.output
  size : w.heap.size ≤ w'.heap.size
  block : ∀ x, x < w.heap.size → x ≠ bp → x ∉ ownF → x ∉ ownP → w'.heap[x]? = w.heap[x]?

theorem fin_end {w W1 W2 W wr : World} {bp bc ch base lb D f1 : Nat} {m0 m1 m2 m3 m4 m5 : Int} {ownF ownP ownR lst own own2 ws1 : List Nat} {MF MP R : Nat → Bool} {xs : List Pg} (o' : Obj) (h : FinSt w bp bc ch base lb m0 m1 m2 m3 m4 m5 ownF ownP ownR lst MF MP R)
    (hst : Step1 w W1 bp m0 m1 m2 m3 m4 m5) (hb12 : Below W1.heap.size W1 W2) (hz2 : W2.heap.size = w.heap.size + 2)
    (hP : PSet W bp 9 base own (adds MF (xs.map (·.1)))) (ho : ∀ x ∈ own, x ∈ ownF ∨ W2.heap.size ≤ x) (hF : Fr W2 W bp 9 6 ownF) (hS : AllOf f1 ws1 xs) (hM : ∀ x, memB f1 ws1 x = R x)
    (hQ : PSet wr bp 15 base own2 (adds MP lst)) (hQF : Fr W wr bp 15 6 ownP) (hD : W2.heap.size ≤ D) (hDb : D ≠ bp) (hKr : wr.heap[D]? = some (.deferred (some []))) :
    FinPost w (wr.putObj D o') bp base m0 m1 m2 m3 m4 m5 ownF ownP lst MF MP R := by
  have hbp : bp < w.heap.size := World.block_lt_of_cell? w _ h.h23
  have hz1 := hst.size
  have hsz := hF.size
  have hsq := hQF.size
  have hput : ∀ x, x ≠ D → (wr.putObj D o').heap[x]? = wr.heap[x]? := fun x hx => World.putObj_heap_other hx
  have hbb : (wr.putObj D o').heap[bp]? = wr.heap[bp]? := hput bp (fun e => hDb e.symm)
  have nD : ∀ {V : World} {oo : Nat} {l : List Nat} {M : Nat → Bool}, PSet V bp oo base l M → V.heap[D]? = some (.deferred (some [])) → D ∉ l := fun hp hv hx => by
    obtain ⟨cur, hcur⟩ := hp.cells D hx
    rw [hcur] at hv
    cases hv
  have hcell : ∀ j, j < 9 ∨ 21 ≤ j → (wr.putObj D o').cell? ⟨bp, j, none⟩ = W1.cell? ⟨bp, j, none⟩ := fun j hj =>
    (World.cell?_of_block (a := ⟨bp, j, none⟩) hbb).trans ((hQF.cell j (by omega)).trans ((hF.cell j (by omega)).trans (hb12.cell (p := ⟨bp, j, none⟩) (by show bp < _; omega))))
  refine ⟨⟨own, ?_⟩, ⟨own2, ?_⟩, (hcell 2 (by omega)).trans hst.c2, (hcell 3 (by omega)).trans hst.c3, (hcell 4 (by omega)).trans hst.c4, (hcell 5 (by omega)).trans hst.c5, (hcell 6 (by omega)).trans hst.c6, (hcell 7 (by omega)).trans hst.c7, (hcell 23 (by omega)).trans hst.c23,
    ?_, ?_, ?_, ?_, ?_⟩
  · have hP1 : PSet wr bp 9 base own (adds MF (xs.map (·.1))) := hP.other hQF (.inl (by omega)) (fun x hx hx2 => by
      rcases ho x hx with h1 | h1
      · exact h.dFP x h1 hx2
      · have := (h.pend.olt x hx2).1; omega)
    refine (hP1.keep (fun j _ _ => World.cell?_of_block (a := ⟨bp, j, none⟩) hbb) (fun j => World.frozen?_of_block (a := ⟨bp, j, none⟩) hbb) (fun x hx => hput x (fun e => nD hP1 hKr (e ▸ hx)))).congr ?_
    funext y
    unfold adds
    have := hS y
    rw [hM] at this
    congr 1
    rw [Bool.eq_iff_iff, ← this]
    simp only [decide_eq_true_eq, List.mem_map]
  · exact hQ.keep (fun j _ _ => World.cell?_of_block (a := ⟨bp, j, none⟩) hbb) (fun j => World.frozen?_of_block (a := ⟨bp, j, none⟩) hbb) (fun x hx => hput x (fun e => nD hQ hKr (e ▸ hx)))
  · exact (hQF.os.trans (hF.os.trans (hb12.os.trans hst.os)))
  · exact (hQF.tape.trans (hF.tape.trans (hb12.tape.trans hst.tape)))
  · exact (hQF.output.trans (hF.output.trans (hb12.output.trans hst.output)))
  · have : (wr.putObj D o').heap.size = wr.heap.size := by simp [World.putObj]
    omega
  · intro x hx hxb hxF hxP
    exact (hput x (by omega)).trans ((hQF.block x (by omega) hxb hxP).trans ((hF.block x (by omega) hxb hxF).trans ((hb12.block x (by omega)).trans (hst.block x hx hxb))))

set_option maxRecDepth 100000 in
set_option maxHeartbeats 4000000 in
theorem finish_ok (bp bc ch base lb : Nat) (m0 m1 m2 m3 m4 m5 : Int) (ownF ownP ownR lst : List Nat) (MF MP R : Nat → Bool) (w : World) (h : FinSt w bp bc ch base lb m0 m1 m2 m3 m4 m5 ownF ownP ownR lst MF MP R) :
    Calls Ybad.prog 8 #[.pointer (some ⟨bp, 0, none⟩)] w fun e w' => e = .returned .nilIface ∧ FinPost w w' bp base m0 m1 m2 m3 m4 m5 ownF ownP lst MF MP R := by
  have H : Hid _ := h
  obtain ⟨s, r, tm, hch⟩ := h.hch
  have h23 := h.h23
  have hne := h.hne
  have hb : bp < w.heap.size := World.block_lt_of_cell? w _ h.h23
  have hbc : bc < w.heap.size := World.block_lt_of_cell? w _ h.h13
  have hz23 := h.hz 23
  have HWT : Hid (Calls Ybad.prog 13 #[.pointer (some ⟨bc, 0, none⟩)] ((w.setCell ⟨bp, 23, none⟩ (.pointer none)).alloc (.cells #[.pointer (some ⟨bp, 0, none⟩)] 28)) fun e w' => e = .returned .nilIface ∧ w' = (w.setCell ⟨bp, 23, none⟩ (.pointer none)).alloc (.cells #[.pointer (some ⟨bp, 0, none⟩)] 28)) := by
    have hchl : ch < w.heap.size := (Array.getElem?_eq_some_iff.1 hch).1
    refine wait_closed bc ch s r tm .nilIface _ ?_ ?_ ?_
    · rw [World.cell?_alloc_past (w := w.setCell ⟨bp, 23, none⟩ (.pointer none)) _ bc 13 (by simpa [World.setCell] using hbc), World.cell?_setCell_other _ _ _ _ (fun e => hne (congrArg Addr.block e).symm)]
      exact h.h13
    · rw [World.cell?_alloc_past (w := w.setCell ⟨bp, 23, none⟩ (.pointer none)) _ bc 14 (by simpa [World.setCell] using hbc), World.cell?_setCell_other _ _ _ _ (fun e => hne (congrArg Addr.block e).symm)]
      exact h.h14
    · rw [Below.heap_alloc _ _ _ (by simpa [World.setCell] using hchl), Below.heap_setCell _ _ _ _ h.hcb]
      exact hch
  clear hch h
  refine (callsIn_wide (n := 6)).1 ?_
  refine callsIn_of_wp_marks Ybad.func8 rfl trivial ?_ rfl
  simp only [Ybad.ntmps8, List.size_toArray, List.length_cons, List.length_nil, Nat.reduceAdd, Nat.reduceSub, Array.replicate_succ, Array.replicate_zero, List.push_toArray, List.append_toArray, List.nil_append, List.cons_append]
  gi_wp2_with (refine ⟨trivial, ?_⟩; gi_at_call 13; refine (callsIn_wide.2 HWT.out).mono ?_; rintro e w' ⟨rfl, rfl⟩)
  obtain ⟨W0, hW0⟩ : ∃ W0, W0 = (w.setCell ⟨bp, 23, none⟩ (.pointer none)).alloc (.cells #[.pointer (some ⟨bp, 0, none⟩)] 28) := ⟨_, rfl⟩
  have hs1 : (w.setCell ⟨bp, 23, none⟩ (.pointer none)).heap.size = w.heap.size := by simp [World.setCell]
  have hcc : ∀ b j, b < w.heap.size → (b ≠ bp ∨ j ≠ 23) → W0.cell? ⟨b, j, none⟩ = w.cell? ⟨b, j, none⟩ := fun b j hbb hj => by
    rw [hW0, World.cell?_alloc_past (w := w.setCell ⟨bp, 23, none⟩ (.pointer none)) _ b j (by rw [hs1]; exact hbb), World.cell?_setCell_other _ _ _ _ (addr_ne (by omega))]
  have hff : ∀ b j, b < w.heap.size → W0.frozen? ⟨b, j, none⟩ = w.frozen? ⟨b, j, none⟩ := fun b j hbb => by
    have : W0.frozen? ⟨b, j, none⟩ = (w.setCell ⟨bp, 23, none⟩ (.pointer none)).frozen? ⟨b, j, none⟩ := by
      rw [hW0]; exact World.frozen?_of_block (Below.heap_alloc _ _ _ (by rw [hs1]; exact hbb))
    rw [this, World.frozen?_setCell]
  have bx : W0.cell? ⟨w.heap.size, 0, none⟩ = some (.pointer (some ⟨bp, 0, none⟩)) := by
    rw [hW0, World.cell?_alloc_at (w := w.setCell ⟨bp, 23, none⟩ (.pointer none)) _ _ w.heap.size 0 hs1.symm]; rfl
  have d0 := (hcc bc 0 hbc (.inl hne)).trans H.out.c0
  have d1 := (hcc bc 1 hbc (.inl hne)).trans H.out.c1
  have d2 := (hcc bc 2 hbc (.inl hne)).trans H.out.c2
  have d3 := (hcc bc 3 hbc (.inl hne)).trans H.out.c3
  have d4 := (hcc bc 4 hbc (.inl hne)).trans H.out.c4
  have d5 := (hcc bc 5 hbc (.inl hne)).trans H.out.c5
  obtain ⟨x2, y2⟩ := Option.isSome_iff_exists.1 (H.out.hm2 2 (by omega))
  obtain ⟨x3, y3⟩ := Option.isSome_iff_exists.1 (H.out.hm2 3 (by omega))
  obtain ⟨x4, y4⟩ := Option.isSome_iff_exists.1 (H.out.hm2 4 (by omega))
  obtain ⟨x5, y5⟩ := Option.isSome_iff_exists.1 (H.out.hm2 5 (by omega))
  obtain ⟨x6, y6⟩ := Option.isSome_iff_exists.1 (H.out.hm2 6 (by omega))
  obtain ⟨x7, y7⟩ := Option.isSome_iff_exists.1 (H.out.hm2 7 (by omega))
  have e2 := (hcc bp 2 hb (.inr (by omega))).trans y2
  have e3 := (hcc bp 3 hb (.inr (by omega))).trans y3
  have e4 := (hcc bp 4 hb (.inr (by omega))).trans y4
  have e5 := (hcc bp 5 hb (.inr (by omega))).trans y5
  have e6 := (hcc bp 6 hb (.inr (by omega))).trans y6
  have e7 := (hcc bp 7 hb (.inr (by omega))).trans y7
  have f2 := (hff bp 2 hb).trans (H.out.hz 2)
  have f3 := (hff bp 3 hb).trans (H.out.hz 3)
  have f4 := (hff bp 4 hb).trans (H.out.hz 4)
  have f5 := (hff bp 5 hb).trans (H.out.hz 5)
  have f6 := (hff bp 6 hb).trans (H.out.hz 6)
  have f7 := (hff bp 7 hb).trans (H.out.hz 7)
  have hmx : Ybad.prog.follows .mixedOrders = true := by kernel_rfl
  have HST : Hid _ := step1_mk w bp bc m0 m1 m2 m3 m4 m5 H.out.h23 H.out.hm2
  rw [← hW0] at HST ⊢
  clear hW0 hcc hff h23 y2 y3 y4 y5 y6 y7 hz23 HWT hs1
  gi_region
  gi_wp2_with fail
  generalize (((((((W0.setCell ⟨bp, 2, none⟩ (.int .u64 m0)).setCell ⟨bp, 3, none⟩ (.int .u32 m1)).setCell ⟨bp, 4, none⟩ (.int .u32 m2)).setCell ⟨bp, 5, none⟩ (.int .u32 m3)).setCell ⟨bp, 6, none⟩ (.int .u32 m4)).setCell ⟨bp, 7, none⟩ (.int .i64 m5)).drew) = W1 at HST ⊢
  clear bx d0 d1 d2 d3 d4 d5 e2 e3 e4 e5 e6 e7 f2 f3 f4 f5 f6 f7 x2 x3 x4 x5 x6 x7 W0
  have hrel : PSet W1 bc 6 base ownR R := H.out.rel.keep (fun j _ _ => World.cell?_of_block (HST.out.block bc hbc hne)) (fun j => World.frozen?_of_block (HST.out.block bc hbc hne)) (fun x hx => HST.out.block x (H.out.rel.olt x hx).1 (fun e => H.out.bpR (e ▸ hx)))
  obtain ⟨f1, ws1, v1, f2, ws2, v2, g1, g2, _, _, _, _, hM, o1, _, _, _⟩ := hrel
  refine ⟨trivial, ?_⟩
  refine (callsIn_wide.2 (pall_any bc 6 _ _ W1 g1.c0 g1.c1)).mono ?_
  rintro e W2 ⟨rfl, hW2⟩
  have HW2 : Hid _ := hW2
  clear hW2
  gi_wp2_with fail
  have hst := HST.out
  have hsz1 : W1.heap.size = w.heap.size + 1 := hst.size
  have hsz2 : W2.heap.size = w.heap.size + 2 := by rw [HW2.out]; simp [hsz1]
  have hb12 : Below W1.heap.size W1 W2 := by rw [HW2.out]; exact (Below.refl _ _).alloc (Nat.le_refl _) _
  have hbx : W2.cell? ⟨W1.heap.size, 0, none⟩ = some (.int .i64 f1) := by rw [HW2.out, World.cell?_alloc_at (w := W1) _ _ W1.heap.size 0 rfl]; rfl
  have hbx1 : W2.cell? ⟨W1.heap.size, 1, none⟩ = some v1 := by rw [HW2.out, World.cell?_alloc_at (w := W1) _ _ W1.heap.size 1 rfl]; rfl
  have hblk : ∀ x, x < w.heap.size → x ≠ bp → W2.heap[x]? = w.heap[x]? := fun x hx hxb => (hb12.block x (by omega)).trans (hst.block x hx hxb)
  have hcel : ∀ j, 8 ≤ j → j ≠ 23 → W2.cell? ⟨bp, j, none⟩ = w.cell? ⟨bp, j, none⟩ := fun j h1 h2 => (hb12.cell (p := ⟨bp, j, none⟩) (by show bp < _; omega)).trans (hst.cell j h1 h2)
  have hfrz : ∀ j, W2.frozen? ⟨bp, j, none⟩ = w.frozen? ⟨bp, j, none⟩ := fun j => (hb12.frozen (p := ⟨bp, j, none⟩) (by show bp < _; omega)).trans (hst.frz j)
  have hbox : W2.cell? ⟨w.heap.size, 0, none⟩ = some (.pointer (some ⟨bp, 0, none⟩)) := (hb12.cell (p := ⟨w.heap.size, 0, none⟩) (by show w.heap.size < _; omega)).trans hst.box
  have hF2 : PSet W2 bp 9 base ownF MF := H.out.free.keep (fun j _ _ => hcel j (by omega) (by omega)) hfrz (fun x hx => hblk x (H.out.free.olt x hx).1 (H.out.free.olt x hx).2.2)
  have hP2 : PSet W2 bp 15 base ownP MP := H.out.pend.keep (fun j _ _ => hcel j (by omega) (by omega)) hfrz (fun x hx => hblk x (H.out.pend.olt x hx).1 (H.out.pend.olt x hx).2.2)
  have hT2 : TabAt W2 := fun j hj => (World.cell?_of_block (a := ⟨0, j, none⟩) (hblk 0 (by omega) (by have := H.out.pos; have := H.out.bpb; show (0 : Nat) ≠ bp; omega))).trans (H.out.tab j hj)
  have hown2 : W2.ownsRow base 22 1 v1 ws1.length (encW ws1) := by rw [HW2.out]; exact g1.own.alloc _
  have HG : Hid _ := And.intro g1 (And.intro hM o1)
  have HSZ : Hid (W1.heap.size = w.heap.size + 1 ∧ W2.heap.size = w.heap.size + 2) := ⟨hsz1, hsz2⟩
  have HX : Hid (W2.cell? ⟨W1.heap.size, 0, none⟩ = some (.int .i64 f1) ∧ W2.cell? ⟨W1.heap.size, 1, none⟩ = some v1 ∧ W2.cell? ⟨w.heap.size, 0, none⟩ = some (.pointer (some ⟨bp, 0, none⟩)) ∧ TabAt W2) := ⟨hbx, hbx1, hbox, hT2⟩
  have HB2 : Hid ((∀ x, x < w.heap.size → x ≠ bp → W2.heap[x]? = w.heap[x]?) ∧ (∀ j, W2.frozen? ⟨bp, j, none⟩ = w.frozen? ⟨bp, j, none⟩) ∧ Below W1.heap.size W1 W2) := ⟨hblk, hfrz, hb12⟩
  clear g1 g2 hM o1 hsz1 hsz2 hbx hbx1 hbox hT2 hblk hcel hfrz hst hb12
  refine wpIn_rangeFunc_ownG rfl (by omega) (gf := 21) (lb := #[.pointer (some ⟨W1.heap.size, 0, none⟩)]) rfl trivial (enters_of Ybad.func21 (by kernel_rfl) rfl)
    (all_stops 5 (by omega) W1.heap.size f1 base ws1 v1 W2 (0 :: W1.heap.size :: ownR) (by simp) (by simp) (fun x hx => by simp [HG.out.2.2 x hx]) ?hL HX.out.2.2.2 HX.out.1 HX.out.2.1 hown2 HG.out.1.lt HG.out.1.bd)
    (fun h k => ⟨Nat.le_trans h.1 k.1, fun x hx => (k.2 x hx).trans (h.2 x hx)⟩) ?hKb (Below.refl _ _) (fun _ => rfl)
    (fun pre W => ∃ own, PSet W bp 9 base own (adds MF (pre.map (·.1))) ∧ (∀ x ∈ own, x ∈ ownF ∨ W2.heap.size ≤ x) ∧ Fr W2 W bp 9 6 ownF)
    (fun _ _ _ => False) ?hI (fun _ _ _ _ _ hs _ _ => hs) ⟨ownF, by rw [List.map_nil, adds_nil]; exact hF2, fun x hx => .inl hx, Fr.refl _ _ _ _ _⟩
    (fun x => { tmps := #[.pointer (some ⟨bp, 0, none⟩), .pointer (some ⟨w.heap.size, 0, none⟩), .nilIface, .pointer (some ⟨bc, 0, none⟩), .nilIface, .int .u32 (x.1 : Nat), undef, undef, .pointer (some ⟨bp, 0, none⟩), .pointer (some ⟨bp, 0, none⟩), .pointer (some ⟨bp, 23, none⟩), .pointer (some ⟨bc, 0, none⟩), .pointer (some ⟨bc, 0, none⟩), .bool false, .pointer (some ⟨bp, 0, none⟩), .pointer (some ⟨bp, 0, none⟩), .pointer (some ⟨bp, 23, none⟩), .pointer (some ⟨bc, 0, none⟩), .nilIface, .nilIface, .bool false, undef, .pointer (some ⟨bp, 0, none⟩), .pointer (some ⟨bc, 0, none⟩), .pointer (some ⟨bc, 0, none⟩), .pointer (some ⟨bc, 0, none⟩), .agg #[.int .u64 m0, .int .u32 m1, .int .u32 m2, .int .u32 m3, .int .u32 m4, .int .i64 m5], .pointer (some ⟨bp, 0, none⟩), .pointer (some ⟨bp, 2, none⟩), .pointer (some ⟨bc, 0, none⟩), .pointer (some ⟨bc, 0, none⟩), .pointer (some ⟨bc, 6, none⟩), .func (.func 21) #[] #[.pointer (some ⟨W1.heap.size, 0, none⟩)], .int .u32 (x.1 : Nat), undef, undef, undef, undef, undef, undef, undef, undef, undef, undef, undef, undef, undef, undef, undef, undef, undef, undef, undef, undef], defers := [] }) ?assign ?body ?done ?stop
  case hL =>
    intro x hx
    obtain ⟨hz1, hz2⟩ := HSZ.out
    simp only [List.mem_cons] at hx
    rcases hx with rfl | rfl | hx
    · omega
    · omega
    · have := (H.out.rel.olt x hx).1; omega
  case hKb =>
    intro W l o o' hl ho _ _
    have := (Array.getElem?_eq_some_iff.1 ho).1
    obtain ⟨hz1, hz2⟩ := HSZ.out
    refine ⟨by simp [World.putObj], fun x hx => World.putObj_heap_other (fun e => ?_)⟩
    simp only [List.mem_cons] at hx
    rcases hx with rfl | rfl | hx
    · omega
    · omega
    · have := (H.out.rel.olt x hx).1; omega
  case hI =>
    rintro pre A B row ⟨own, hP, ho, hF⟩ hg hr
    have hnb : some bp ≠ row := fun e => by
      obtain ⟨_, ob, hob, hoc⟩ := hr bp e.symm
      obtain ⟨_, _, _, _, _, _, q1, _⟩ := hP
      have hc := q1.c0
      simp only [World.cell?, hob] at hc
      cases ob <;> simp_all [Obj.isCells]
    have hbb : B.heap[bp]? = A.heap[bp]? := hg.block bp hP.blt hnb
    have hk : ∀ x ∈ own, B.heap[x]? = A.heap[x]? := fun x hx => hg.block x (hP.olt x hx).1 (fun e => by
      obtain ⟨_, ob, hob, hoc⟩ := hr x e.symm
      obtain ⟨cur, hcur⟩ := hP.cells x hx
      rw [hcur] at hob
      cases hob
      simp [Obj.isCells] at hoc)
    refine ⟨own, hP.keep (fun j _ _ => World.cell?_of_block hbb) (fun j => World.frozen?_of_block hbb) hk, ho, ?_⟩
    refine ⟨hg.os.trans hF.os, hg.tape.trans hF.tape, hg.output.trans hF.output, Nat.le_trans hF.size hg.size, fun i hi hib hio => ?_, fun j hj => (World.cell?_of_block hbb).trans (hF.cell j hj), fun j => (World.frozen?_of_block hbb).trans (hF.frz j)⟩
    exact (hg.block i (Nat.lt_of_lt_of_le hi hF.size) (fun e => by have := (hr i e.symm).1; omega)).trans (hF.block i hi hib hio)
  case assign =>
    intro l x W K hK
    dsimp only [encP]
    gi_wp2
    exact hK
  case body =>
    rintro l pre x W ⟨own, hP, ho, hF⟩ _
    have hbx2 : W.cell? ⟨w.heap.size, 0, none⟩ = some (.pointer (some ⟨bp, 0, none⟩)) := by
      have hz := HSZ.out
      refine (World.cell?_of_block (hF.block w.heap.size (by omega) (by omega) (fun hx => ?_))).trans HX.out.2.2.1
      have := (H.out.free.olt _ hx).1; omega
    gi_wp2_with (refine ⟨trivial, ?_⟩; gi_at_call 7; refine (CallsIn.inRound l (callsIn_wide.2 (add_any bp 9 base x.1 own _ W hP (Nat.le_trans H.out.hbase (by have := HSZ.out; have := hF.size; omega)) x.2))).mono ?_; rintro e W3 ⟨rfl, own', hP', ho', hF'⟩)
    refine ⟨⟨hF'.size, fun k o hk hko hoc => ?_⟩, ⟨hF'.size, fun y hy => ?_⟩, own', ?_, ?_, ?_⟩
    · refine (hF'.block k (Array.getElem?_eq_some_iff.1 hko).1 (fun e => ?_) (fun hx => ?_)).trans hko
      · have := HSZ.out; omega
      · obtain ⟨cur, hcur⟩ := hP.cells k hx
        rw [hcur] at hko
        cases hko
        simp [Obj.isCells] at hoc
    · have hz := HSZ.out
      have hsz := hF.size
      have hpos := H.out.pos
      have hbpb := H.out.bpb
      simp only [List.mem_cons] at hy
      have hlt : y < w.heap.size ∨ y = W1.heap.size := by
        rcases hy with rfl | rfl | hy
        · left; omega
        · right; rfl
        · left; exact (H.out.rel.olt y hy).1
      have hnb : y ≠ bp := by
        rcases hy with rfl | rfl | hy
        · omega
        · omega
        · exact fun e => H.out.bpR (e ▸ hy)
      have hno : y ∉ own := fun hyo => by
        rcases ho y hyo with h1 | h1
        · have h2 := H.out.free.olt y h1
          rcases hy with rfl | rfl | hy
          · omega
          · omega
          · exact H.out.dRF y hy h1
        · omega
      exact hF'.block y (by omega) hnb hno
    · rw [List.map_append, List.map_cons, List.map_nil, adds_snoc]; exact hP'
    · intro y hy
      rcases ho' y hy with h1 | h1
      · exact ho y h1
      · right; have := hF.size; omega
    · exact hF.trans hF' ho
  case done =>
    rintro D xs W hD hS ⟨own, hP, ho, hF⟩ hK
    obtain ⟨hz1, hz2⟩ := HSZ.out
    have hsz := hF.size
    have hWb : ∀ x, x < w.heap.size → x ≠ bp → x ∉ ownF → W.heap[x]? = w.heap[x]? := fun x hx hxb hxf => (hF.block x (by omega) hxb hxf).trans (HB2.out.1 x hx hxb)
    have l12 : W.cell? ⟨bc, 12, none⟩ = some (.slice (some ⟨lb, 0, none⟩) lst.length lst.length) := (World.cell?_of_block (hWb bc hbc hne H.out.bcF)).trans H.out.l12
    have hPW : PSet W bp 15 base ownP MP := hP2.other hF (.inr (by omega)) (fun x hx hx2 => H.out.dFP x hx2 hx)
    have hll := H.out.llen
    have hbxW : W.cell? ⟨w.heap.size, 0, none⟩ = some (.pointer (some ⟨bp, 0, none⟩)) := (World.cell?_of_block (hF.block w.heap.size (by omega) (by omega) (fun hx => by have := (H.out.free.olt _ hx).1; omega))).trans HX.out.2.2.1
    have HWL : Hid (∀ k, k < lst.length → W.cell? ⟨lb, k, none⟩ = some (.int .u32 (lst.getD k 0 : Nat))) := fun k hk => (World.cell?_of_block (a := ⟨lb, k, none⟩) (hWb lb H.out.lbl H.out.lbp H.out.lbF)).trans (H.out.lcell k hk)
    have HWP : Hid _ := And.intro hPW (And.intro hP (And.intro ho (And.intro hF (And.intro hWb (And.intro hbxW (And.intro hK (And.intro hD hS)))))))
    have HZ : Hid _ := And.intro hz1 (And.intro hz2 hsz)
    clear hPW hP ho hF hWb hbxW hK hD hS hz1 hz2 hsz hF2 hP2 hown2
    gi_wp2
    gi_loopw [44] (fun c wr => ∃ (k : Nat) (own2 : List Nat), k ≤ lst.length ∧ c = .int .i64 k ∧ PSet wr bp 15 base own2 (adds MP (lst.take k)) ∧ (∀ x ∈ own2, x ∈ ownP ∨ W.heap.size ≤ x) ∧ Fr W wr bp 15 6 ownP)
      (fun c _ => lst.length - (intOf c).toNat)
    case atStart => exact ⟨0, ownP, Nat.zero_le _, rfl, by rw [List.take_zero, adds_nil]; exact HWP.out.1, fun x hx => .inl hx, Fr.refl _ _ _ _ _⟩
    case round =>
      obtain ⟨k, own2, hk, rfl, hQ, hqo, hQF⟩ := hrel
      have hz : w.heap.size + 2 ≤ W.heap.size := by have := HZ.out; omega
      have hsq := hQF.size
      by_cases hlt : k < lst.length
      · have hlbP : lb ∉ ownP := H.out.lbP
        have ec : wr.cell? ⟨lb, k, none⟩ = some (.int .u32 (lst.getD k 0 : Nat)) := (World.cell?_of_block (a := ⟨lb, k, none⟩) (hQF.block lb (by have := H.out.lbl; show lb < _; omega) H.out.lbp hlbP)).trans (HWL.out k hlt)
        have eb : wr.cell? ⟨w.heap.size, 0, none⟩ = some (.pointer (some ⟨bp, 0, none⟩)) := (World.cell?_of_block (a := ⟨w.heap.size, 0, none⟩) (hQF.block w.heap.size (by show w.heap.size < _; omega) (by show w.heap.size ≠ _; omega) (fun hx => by have := (H.out.pend.olt _ hx).1; omega))).trans HWP.out.2.2.2.2.2.1
        have hxk : lst.getD k 0 = lst[k] := by rw [List.getD_eq_getElem?_getD, List.getElem?_eq_getElem hlt]; rfl
        have hx4 : lst.getD k 0 < 4096 := by rw [hxk]; exact H.out.llt _ (List.getElem_mem _)
        have HT : Hid (lst.take (k + 1) = lst.take k ++ [lst.getD k 0]) := by
          show lst.take (k + 1) = _
          rw [List.take_succ_eq_append_getElem hlt, hxk]
        generalize lst.getD k 0 = y at ec hx4 HT
        have HA : Hid _ := add_any bp 15 base y own2 _ wr hQ (Nat.le_trans H.out.hbase (by omega)) hx4
        have HQ : Hid _ := And.intro hqo hQF
        clear hxk hQ hqo hQF
        gi_wp2_with (refine ⟨trivial, ?_⟩; gi_at_call 7; refine (callsIn_wide.2 HA.out).mono ?_; rintro e W3 ⟨rfl, own', hP', ho', hF'⟩)
        go_roundw
        case rel =>
          refine ⟨k + 1, own', by omega, by go_num, by rw [HT.out, adds_snoc]; exact hP', fun x hx => ?_, HQ.out.2.trans hF' HQ.out.1⟩
          rcases ho' x hx with h1 | h1
          · exact HQ.out.1 x h1
          · right; omega
        case measure => simp [intOf]; omega
      · have hk2 : k = lst.length := by omega
        subst hk2
        have HQ : Hid _ := And.intro hQ (And.intro hqo hQF)
        clear hQ hqo hQF
        gi_wp2
        have hDW : W.heap[D]? = some (.deferred (some [])) := HWP.out.2.2.2.2.2.2.1
        have hDl := (Array.getElem?_eq_some_iff.1 hDW).1
        have hD2 : W2.heap.size ≤ D := HWP.out.2.2.2.2.2.2.2.1
        have hDP : D ∉ ownP := fun hx => by have := (H.out.pend.olt D hx).1; have := HZ.out; omega
        have hDb : D ≠ bp := by have := HZ.out; omega
        have hKr : wr.heap[D]? = some (.deferred (some [])) := (HQ.out.2.2.block D hDl hDb hDP).trans hDW
        refine ⟨by simp, .inl ⟨_, _, rfl, run_takeDeferred hKr, ?_⟩⟩
        refine ⟨_, results_tmp rfl _ _ _, rfl, ?_⟩
        obtain ⟨_, hP, ho, hF, _, _, _, _, hS⟩ := HWP.out
        have hQ := HQ.out.1
        rw [List.take_length] at hQ
        exact fin_end _ H.out HST.out HB2.out.2.2 HZ.out.2.1 hP ho hF hS HG.out.2.1 hQ HQ.out.2.2 hD2 hDb hKr
  case stop =>
    rintro D c pre W _ _ h _
    exact h.elim
end Go.Proofs.YbulkcuksDoor
