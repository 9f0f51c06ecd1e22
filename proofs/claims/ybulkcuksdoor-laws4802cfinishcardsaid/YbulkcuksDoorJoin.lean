/-
  The pager and the checkpoint laid side by side: what the law's own stores (lists, close, inFlight) leave, as finishCheckpoint meets it.
-/
import Derived.Test.YbulkcuksDoorCk
import Derived.Conc.EventLaws
namespace Go.Proofs.YbulkcuksDoor
open Go.RowKit

/-- The checkpoint in block bc (its channel in ch, open; its list in lb), laid in memory newer than w1; of w1's blocks those not in 'ex' are as they were. -/
structure Jn (w1 V : World) (bc ch base lb : Nat) (m0 m1 m2 m3 m4 m5 : Int) (ev : Value) (own : List Nat) (R : Nat → Bool) (l ex : List Nat) : Prop where
  os : V.os = w1.os
  tape : V.tape = w1.tape
  output : V.output = w1.output
  size : w1.heap.size ≤ V.heap.size
  old : ∀ x, x < w1.heap.size → x ∉ ex → V.heap[x]? = w1.heap[x]?
  bcl : w1.heap.size ≤ bc
  chl : w1.heap.size ≤ ch
  lbl : w1.heap.size ≤ lb
  lbv : lb < V.heap.size
  bne : bc ≠ ch
  lne : lb ≠ bc
  lch : lb ≠ ch
  rel : PSet V bc 6 base own R
  ownl : ∀ x ∈ own, w1.heap.size ≤ x
  lbo : lb ∉ own
  c0 : V.cell? ⟨bc, 0, none⟩ = some (.int .u64 m0)
  c1 : V.cell? ⟨bc, 1, none⟩ = some (.int .u32 m1)
  c2 : V.cell? ⟨bc, 2, none⟩ = some (.int .u32 m2)
  c3 : V.cell? ⟨bc, 3, none⟩ = some (.int .u32 m3)
  c4 : V.cell? ⟨bc, 4, none⟩ = some (.int .u32 m4)
  c5 : V.cell? ⟨bc, 5, none⟩ = some (.int .i64 m5)
  c12 : V.cell? ⟨bc, 12, none⟩ = some (.slice none 0 0)
  c13 : V.cell? ⟨bc, 13, none⟩ = some (.chan (some ch))
  c14 : V.cell? ⟨bc, 14, none⟩ = some ev
  z12 : V.frozen? ⟨bc, 12, none⟩ = false
  chan : V.heap[ch]? = some (.chan 0 #[] false 0 0 false)
  lists : LAt V lb l.length l

/-- The channel closed. -/
def closeW (w : World) (ch : Nat) : World := { w with heap := w.heap.setIfInBounds ch (.chan 0 #[] true 0 0 false) }

theorem closeW_other (w : World) (ch x : Nat) (h : x ≠ ch) : (closeW w ch).heap[x]? = w.heap[x]? := by
  show (w.heap.setIfInBounds ch _)[x]? = _
  rw [Array.getElem?_setIfInBounds, if_neg (fun e => h e.symm)]
theorem closeW_same (w : World) (ch : Nat) (h : ch < w.heap.size) : (closeW w ch).heap[ch]? = some (.chan 0 #[] true 0 0 false) := by
  show (w.heap.setIfInBounds ch _)[ch]? = _
  rw [Array.getElem?_setIfInBounds, if_pos rfl, if_pos h]
theorem closeW_size (w : World) (ch : Nat) : (closeW w ch).heap.size = w.heap.size := by
  show (w.heap.setIfInBounds ch _).size = _
  simp

/-- The world where finishCheckpoint is called. -/
def flyW (V : World) (bp bc ch lb n : Nat) : World := (closeW (V.setCell ⟨bc, 12, none⟩ (.slice (some ⟨lb, 0, none⟩) n n)) ch).setCell ⟨bp, 23, none⟩ (.pointer (some ⟨bc, 0, none⟩))

theorem flyW_block (V : World) (bp bc ch lb n x : Nat) (h1 : x ≠ bp) (h2 : x ≠ bc) (h3 : x ≠ ch) : (flyW V bp bc ch lb n).heap[x]? = V.heap[x]? := by
  unfold flyW
  rw [Below.heap_setCell _ _ _ _ h1, closeW_other _ _ _ h3, Below.heap_setCell _ _ _ _ h2]
theorem flyW_size (V : World) (bp bc ch lb n : Nat) : (flyW V bp bc ch lb n).heap.size = V.heap.size := by
  unfold flyW
  have e1 : (closeW (V.setCell ⟨bc, 12, none⟩ (.slice (some ⟨lb, 0, none⟩) n n)) ch).heap.size = V.heap.size := by rw [closeW_size]; simp [World.setCell]
  rw [← e1]
  simp [World.setCell]
theorem flyW_bp (V : World) (bp bc ch lb n j : Nat) (h1 : bp ≠ bc) (h2 : bp ≠ ch) (hj : j ≠ 23) : (flyW V bp bc ch lb n).cell? ⟨bp, j, none⟩ = V.cell? ⟨bp, j, none⟩ := by
  unfold flyW
  rw [World.cell?_setCell_other _ _ _ _ (addr_ne (.inr (fun e => hj e.symm)))]
  refine World.cell?_of_block (a := ⟨bp, j, none⟩) ?_
  rw [closeW_other _ _ _ h2, Below.heap_setCell _ _ _ _ h1]
theorem flyW_frz (V : World) (bp bc ch lb n j : Nat) (h1 : bp ≠ bc) (h2 : bp ≠ ch) : (flyW V bp bc ch lb n).frozen? ⟨bp, j, none⟩ = V.frozen? ⟨bp, j, none⟩ := by
  unfold flyW
  rw [World.frozen?_setCell]
  refine World.frozen?_of_block (a := ⟨bp, j, none⟩) ?_
  rw [closeW_other _ _ _ h2, Below.heap_setCell _ _ _ _ h1]
theorem flyW_bc (V : World) (bp bc ch lb n j : Nat) (h1 : bp ≠ bc) (h2 : bc ≠ ch) (hj : j ≠ 12) : (flyW V bp bc ch lb n).cell? ⟨bc, j, none⟩ = V.cell? ⟨bc, j, none⟩ := by
  unfold flyW
  rw [World.cell?_setCell_other _ _ _ _ (addr_ne (.inl h1)), World.cell?_of_block (a := ⟨bc, j, none⟩) (closeW_other _ _ _ h2), World.cell?_setCell_other _ _ _ _ (addr_ne (.inr (fun e => hj e.symm)))]
theorem flyW_bcfrz (V : World) (bp bc ch lb n j : Nat) (h2 : bc ≠ ch) : (flyW V bp bc ch lb n).frozen? ⟨bc, j, none⟩ = V.frozen? ⟨bc, j, none⟩ := by
  unfold flyW
  rw [World.frozen?_setCell, World.frozen?_of_block (a := ⟨bc, j, none⟩) (closeW_other _ _ _ h2), World.frozen?_setCell]

section
variable {w w1 V : World} {bp bc ch base lb : Nat} {o0 o1 o2 o3 o4 o5 m0 m1 m2 m3 m4 m5 : Int} {ev : Value} {ownF ownP own l ex : List Nat} {MF MP R : Nat → Bool}

theorem jn_pager (hp : PagerAt w1 bp base o0 o1 o2 o3 o4 o5 ownF ownP MF MP) (h : Jn w1 V bc ch base lb m0 m1 m2 m3 m4 m5 ev own R l ex) (hbx : bp ∉ ex) (hfx : ∀ x ∈ ownF, x ∉ ex) (hpx : ∀ x ∈ ownP, x ∉ ex) : PagerAt V bp base o0 o1 o2 o3 o4 o5 ownF ownP MF MP := by
  have hb : V.heap[bp]? = w1.heap[bp]? := h.old bp hp.free.blt hbx
  have hc : ∀ j, V.cell? ⟨bp, j, none⟩ = w1.cell? ⟨bp, j, none⟩ := fun j => World.cell?_of_block (a := ⟨bp, j, none⟩) hb
  have hz : ∀ j, V.frozen? ⟨bp, j, none⟩ = w1.frozen? ⟨bp, j, none⟩ := fun j => World.frozen?_of_block (a := ⟨bp, j, none⟩) hb
  exact ⟨fun j hj => by rw [hc]; exact hp.hm2 j hj, (hc _).trans hp.c2, (hc _).trans hp.c3, (hc _).trans hp.c4, (hc _).trans hp.c5, (hc _).trans hp.c6, (hc _).trans hp.c7, (hc _).trans hp.c23, fun j => (hz j).trans (hp.hz j),
    hp.free.keep (fun j _ _ => hc j) hz (fun x hx => h.old x (hp.free.olt x hx).1 (hfx x hx)), hp.pend.keep (fun j _ _ => hc j) hz (fun x hx => h.old x (hp.pend.olt x hx).1 (hpx x hx)), hp.dFP⟩

theorem jn_fin (hp : PagerAt w1 bp base o0 o1 o2 o3 o4 o5 ownF ownP MF MP) (h : Jn w1 V bc ch base lb m0 m1 m2 m3 m4 m5 .nilIface own R l ex) (hbx : bp ∉ ex) (hfx : ∀ x ∈ ownF, x ∉ ex) (hpx : ∀ x ∈ ownP, x ∉ ex)
    (hT : TabAt V) (hpos : 0 < base) (hbpb : base ≤ bp) (_hbase : base ≤ w1.heap.size) (hll : l.length ≤ 1024) (hl : ∀ x ∈ l, x < 4096) :
    FinSt (flyW V bp bc ch lb l.length) bp bc ch base lb m0 m1 m2 m3 m4 m5 ownF ownP own l MF MP R := by
  have hpV := jn_pager hp h hbx hfx hpx
  have hbl := hp.free.blt
  have hbcl := h.bcl
  have hchl := h.chl
  have hlbl := h.lbl
  have n1 : bp ≠ bc := by omega
  have n2 : bp ≠ ch := by omega
  have hcc : ch < V.heap.size := (Array.getElem?_eq_some_iff.1 h.chan).1
  have hkind : ∀ {W : World} {oo : Nat} {b : Nat} {q : List Nat} {M : Nat → Bool}, PSet W b oo base q M → W.heap[ch]? = some (.chan 0 #[] false 0 0 false) → ch ∉ q := fun hq hv hx => by
    obtain ⟨cur, hcur⟩ := hq.cells ch hx
    rw [hcur] at hv
    cases hv
  have hfb := fun j => flyW_bp V bp bc ch lb l.length j n1 n2
  have hfz := fun j => flyW_frz V bp bc ch lb l.length j n1 n2
  have hfc := fun j => flyW_bc V bp bc ch lb l.length j n1 h.bne
  have hblk := fun x => flyW_block V bp bc ch lb l.length x
  refine ⟨?_, fun j => (hfz j).trans (hpV.hz j), fun e => n1 e.symm, fun j hj => by rw [hfb j (by omega)]; exact hpV.hm2 j hj, (hfc 0 (by omega)).trans h.c0, (hfc 1 (by omega)).trans h.c1, (hfc 2 (by omega)).trans h.c2, (hfc 3 (by omega)).trans h.c3, (hfc 4 (by omega)).trans h.c4, (hfc 5 (by omega)).trans h.c5,
    (hfc 13 (by omega)).trans h.c13, (hfc 14 (by omega)).trans h.c14, ⟨0, 0, false, ?_⟩, fun e => n2 e.symm, ?_, ?_, ?_, ?_, ?_, hl, hll, by rw [flyW_size]; exact h.lbv, by omega, ?_, ?_, hpV.dFP, ?_, ?_, ?_, ?_, ?_, hpos, hbpb, ?_⟩
  · unfold flyW
    have hq : (closeW (V.setCell ⟨bc, 12, none⟩ (.slice (some ⟨lb, 0, none⟩) l.length l.length)) ch).cell? ⟨bp, 23, none⟩ = some (.pointer none) := by
      rw [World.cell?_of_block (a := ⟨bp, 23, none⟩) (closeW_other _ _ _ n2), World.cell?_setCell_other _ _ _ _ (addr_ne (.inl (fun e => n1 e.symm)))]
      exact hpV.c23
    exact World.cell?_setCell_same _ _ _ hq
  · unfold flyW
    rw [Below.heap_setCell _ _ _ _ (fun e => n2 e.symm)]
    exact closeW_same _ _ (by simpa [World.setCell] using hcc)
  · exact hpV.free.keep (fun j _ _ => hfb j (by omega)) hfz (fun x hx => hblk x (hpV.free.olt x hx).2.2 (by have := (hp.free.olt x hx).1; omega) (by have := (hp.free.olt x hx).1; omega))
  · exact hpV.pend.keep (fun j _ _ => hfb j (by omega)) hfz (fun x hx => hblk x (hpV.pend.olt x hx).2.2 (by have := (hp.pend.olt x hx).1; omega) (by have := (hp.pend.olt x hx).1; omega))
  · exact h.rel.keep (fun j _ _ => hfc j (by omega)) (fun j => flyW_bcfrz V bp bc ch lb l.length j h.bne) (fun x hx => hblk x (by have := h.ownl x hx; omega) (h.rel.olt x hx).2.2 (fun e => hkind h.rel h.chan (e ▸ hx)))
  · unfold flyW
    rw [World.cell?_setCell_other _ _ _ _ (addr_ne (.inl n1)), World.cell?_of_block (a := ⟨bc, 12, none⟩) (closeW_other _ _ _ h.bne)]
    exact World.cell?_setCell_same _ _ _ h.c12
  · intro k hk
    rw [World.cell?_of_block (a := ⟨lb, k, none⟩) (hblk lb (by omega) h.lne h.lch)]
    exact h.lists.val k hk
  · intro hx; have := (hp.free.olt lb hx).1; omega
  · intro hx; have := (hp.pend.olt lb hx).1; omega
  · intro x hx hx2; have := h.ownl x hx; have := (hp.free.olt x hx2).1; omega
  · intro hx; have := h.ownl bp hx; omega
  · intro hx; have := (hp.free.olt bc hx).1; omega
  · intro hx; have := (hp.pend.olt bc hx).1; omega
  · intro j hj
    rw [World.cell?_of_block (a := ⟨0, j, none⟩) (hblk 0 (by omega) (by omega) (by omega))]
    exact hT j hj
  · rw [flyW_size]; have := h.size; omega

theorem jn_mk {wc V1 V2 V3 : World} {n : Nat} {exF exL : List Nat} (hck : CkNew w1 wc bc ch m0 m1 m2 m3 m4 m5 ev) (hQ : PSet V1 bc 6 base own R) (hqo : ∀ x ∈ own, wc.heap.size ≤ x) (hF : Fr wc V1 bc 6 6 exF) (hB : Below V1.heap.size V1 V2) (hlt : V1.heap.size < V2.heap.size)
    (hlb : V1.heap.size = lb) (hL : LAt V3 lb n l) (hln : l.length = n) (hF2 : Fr V2 V3 lb 0 n exL) (hxF : ∀ x ∈ exF, x < w1.heap.size) (hxL : ∀ x ∈ exL, x < w1.heap.size) :
    Jn w1 V3 bc ch base lb m0 m1 m2 m3 m4 m5 ev own R l (exF ++ exL) := by
  subst hln
  have s0 := hck.bel.size
  have s1 := hF.size
  have s2 := hB.size
  have s3 := hF2.size
  have b1 := hck.bcl
  have b2 := hck.chl
  have b3 := hck.blt
  have b4 := hck.clt
  have nF : ∀ x, w1.heap.size ≤ x → x ∉ exF := fun x hx h => by have := hxF x h; omega
  have nL : ∀ x, w1.heap.size ≤ x → x ∉ exL := fun x hx h => by have := hxL x h; omega
  have hbc : V3.heap[bc]? = V1.heap[bc]? := (hF2.block bc (by omega) (by omega) (nL bc b1)).trans (hB.block bc (by omega))
  have hcell : ∀ j, j < 6 ∨ 12 ≤ j → V3.cell? ⟨bc, j, none⟩ = (ckCells m0 m1 m2 m3 m4 m5 ch ev)[j]? := fun j hj => ((World.cell?_of_block (a := ⟨bc, j, none⟩) hbc).trans (hF.cell j (by omega))).trans (ck_cell hck j)
  have hch : V3.heap[ch]? = wc.heap[ch]? := ((hF2.block ch (by omega) (by omega) (nL ch b2)).trans (hB.block ch (by omega))).trans (hF.block ch b4 (fun e => hck.ne e.symm) (nF ch b2))
  refine ⟨hF2.os.trans (hB.os.trans (hF.os.trans hck.bel.os)), hF2.tape.trans (hB.tape.trans (hF.tape.trans hck.bel.tape)), hF2.output.trans (hB.output.trans (hF.output.trans hck.bel.output)), by omega, ?_, b1, b2, by omega, by omega, hck.ne, by omega, by omega, ?_, ?_, ?_,
    (hcell 0 (by omega)).trans rfl, (hcell 1 (by omega)).trans rfl, (hcell 2 (by omega)).trans rfl, (hcell 3 (by omega)).trans rfl, (hcell 4 (by omega)).trans rfl, (hcell 5 (by omega)).trans rfl, (hcell 12 (by omega)).trans rfl, (hcell 13 (by omega)).trans rfl, (hcell 14 (by omega)).trans rfl, ?_, hch.trans hck.chan, hL⟩
  · intro x hx hxe
    simp only [List.mem_append, not_or] at hxe
    exact (((hF2.block x (by omega) (by omega) hxe.2).trans (hB.block x (by omega))).trans (hF.block x (by omega) (by omega) hxe.1)).trans (hck.bel.block x hx)
  · exact hQ.keep (fun j _ _ => World.cell?_of_block (a := ⟨bc, j, none⟩) hbc) (fun j => World.frozen?_of_block (a := ⟨bc, j, none⟩) hbc) (fun x hx => (hF2.block x (by have := (hQ.olt x hx).1; omega) (by have := (hQ.olt x hx).1; omega) (nL x (by have := hqo x hx; omega))).trans (hB.block x (hQ.olt x hx).1))
  · intro x hx; have := hqo x hx; omega
  · intro hx; have := (hQ.olt lb hx).1; omega
  · rw [World.frozen?_of_block (a := ⟨bc, 12, none⟩) hbc, hF.frz]
    simp [World.frozen?, hck.cells]
end

end Go.Proofs.YbulkcuksDoor
