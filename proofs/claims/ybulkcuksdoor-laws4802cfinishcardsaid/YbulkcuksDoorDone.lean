/-
  What the law looks at in the end: the pager, the two tables, the box of 'next' (or 'old').
-/
import Derived.Test.YbulkcuksDoorJoin
import Derived.Test.YbulkcuksDoorMatch
namespace Go.Proofs.YbulkcuksDoor
open Go.RowKit

/-- the cells of a box of six -/
def mCells (m0 m1 m2 m3 m4 m5 : Int) : Array Value := #[.int .u64 m0, .int .u32 m1, .int .u32 m2, .int .u32 m3, .int .u32 m4, .int .i64 m5]

structure DoneSt (w w3 : World) (bp nb : Nat) (m0 m1 m2 m3 m4 m5 : Int) (F P : Nat → Bool) : Prop where
  free : ∃ own, PSet w3 bp 9 w.heap.size own F
  pend : ∃ own, PSet w3 bp 15 w.heap.size own P
  c2 : w3.cell? ⟨bp, 2, none⟩ = some (.int .u64 m0)
  c3 : w3.cell? ⟨bp, 3, none⟩ = some (.int .u32 m1)
  c4 : w3.cell? ⟨bp, 4, none⟩ = some (.int .u32 m2)
  c5 : w3.cell? ⟨bp, 5, none⟩ = some (.int .u32 m3)
  c6 : w3.cell? ⟨bp, 6, none⟩ = some (.int .u32 m4)
  c7 : w3.cell? ⟨bp, 7, none⟩ = some (.int .i64 m5)
  c23 : w3.cell? ⟨bp, 23, none⟩ = some (.pointer none)
  nx : w3.heap[nb]? = some (.cells (mCells m0 m1 m2 m3 m4 m5) 25 (0, 0))
  wf : WAt w3 (w.heap.size + 2) F
  wp : WAt w3 (w.heap.size + 3) P
  bel : Below w.heap.size w w3

theorem DoneSt.blt {w w3 : World} {bp nb : Nat} {m0 m1 m2 m3 m4 m5 : Int} {F P : Nat → Bool} (h : DoneSt w w3 bp nb m0 m1 m2 m3 m4 m5 F P) : bp < w3.heap.size := World.block_lt_of_cell? w3 _ h.c23

theorem DoneSt.nlt {w w3 : World} {bp nb : Nat} {m0 m1 m2 m3 m4 m5 : Int} {F P : Nat → Bool} (h : DoneSt w w3 bp nb m0 m1 m2 m3 m4 m5 F P) : nb < w3.heap.size := (Array.getElem?_eq_some_iff.1 h.nx).1

theorem DoneSt.below {w w3 w4 : World} {bp nb : Nat} {m0 m1 m2 m3 m4 m5 : Int} {F P : Nat → Bool} (h : DoneSt w w3 bp nb m0 m1 m2 m3 m4 m5 F P) (hb : Below w3.heap.size w3 w4) : DoneSt w w4 bp nb m0 m1 m2 m3 m4 m5 F P := by
  obtain ⟨o1, p1⟩ := h.free
  obtain ⟨o2, p2⟩ := h.pend
  have hc : ∀ j, w4.cell? ⟨bp, j, none⟩ = w3.cell? ⟨bp, j, none⟩ := fun j => hb.cell (p := ⟨bp, j, none⟩) h.blt
  exact ⟨⟨o1, p1.below hb⟩, ⟨o2, p2.below hb⟩, (hc _).trans h.c2, (hc _).trans h.c3, (hc _).trans h.c4, (hc _).trans h.c5, (hc _).trans h.c6, (hc _).trans h.c7, (hc _).trans h.c23, (hb.block nb h.nlt).trans h.nx, h.wf.keep (hb.block _ h.wf.lt), h.wp.keep (hb.block _ h.wp.lt), h.bel.trans (hb.mono h.bel.size)⟩

theorem DoneSt.box {w w3 : World} {bp nb : Nat} {m0 m1 m2 m3 m4 m5 : Int} {F P : Nat → Bool} (h : DoneSt w w3 bp nb m0 m1 m2 m3 m4 m5 F P) (j : Nat) : w3.cell? ⟨nb, j, none⟩ = (mCells m0 m1 m2 m3 m4 m5)[j]? := cell_of_row w3 nb j _ 25 (0, 0) h.nx

/-- A set's six cells, and what 'match' says of it. -/
theorem done_match {w w3 : World} {bp o wb : Nat} {own : List Nat} {F : Nat → Bool} (hp : PSet w3 bp o w.heap.size own F) (hw : WAt w3 wb F) :
    ∃ c0 c1 c2 c3 c4 c5, w3.cell? ⟨bp, o, none⟩ = some c0 ∧ w3.cell? ⟨bp, o + 1, none⟩ = some c1 ∧ w3.cell? ⟨bp, o + 2, none⟩ = some c2 ∧ w3.cell? ⟨bp, o + 3, none⟩ = some c3 ∧ w3.cell? ⟨bp, o + 4, none⟩ = some c4 ∧ w3.cell? ⟨bp, o + 5, none⟩ = some c5 ∧
      c0.oneCell' = true ∧ c1.oneCell' = true ∧ c2.oneCell' = true ∧ c3.oneCell' = true ∧ c4.oneCell' = true ∧ c5.oneCell' = true ∧
      ∀ w4, Below w3.heap.size w3 w4 → Calls Ybad.prog 9 #[.agg #[c0, c1, c2, c3, c4, c5], .slice (some ⟨wb, 0, none⟩) 4096 4096] w4 fun e w' => e = .returned (.bool true) ∧ Below w4.heap.size w4 w' := by
  obtain ⟨f1, ws1, v1, f2, ws2, v2, h1, h2, k4, _, k5, _, hM, _, _, _, _⟩ := hp
  have o1 : v1.oneCell' = true := by obtain ⟨a, cap, rfl, _⟩ := owns_slice h1.own; rfl
  have o2 : v2.oneCell' = true := by obtain ⟨a, cap, rfl, _⟩ := owns_slice h2.own; rfl
  refine ⟨_, _, _, _, _, _, h1.c0, h1.c1, h2.c0, h2.c1, k4, k5, rfl, o1, rfl, o2, rfl, rfl, fun w4 hb => ?_⟩
  have hw4 : WAt w4 wb F := hw.keep (hb.block _ hw.lt)
  exact match_true f1 w.heap.size wb _ ws1 v1 _ _ _ F w4 (ownsRow_of_block h1.own (fun x hx => hb.block x (h1.olt x hx).2)) h1.lt h1.bd (fun x _ => hM x) rfl (fun i hi => hw4.cell i hi) hw4.lt

theorem law_done {w w1 V3 w3 : World} {bp bc ch lb j : Nat} {m0 m1 m2 m3 m4 m5 : Int} {ownF ownP own l xs rs : List Nat} {MP : Nat → Bool}
    (hjn : Jn w1 V3 bc ch w.heap.size lb m0 m1 m2 m3 m4 m5 .nilIface own (adds noPg (ids rs)) (ids l) ([w.heap.size + 2] ++ [w.heap.size + 3])) (hoF4 : ∀ x ∈ ownF, w.heap.size + 4 ≤ x) (hoP4 : ∀ x ∈ ownP, w.heap.size + 4 ≤ x) (hbp4 : w.heap.size + 4 ≤ bp) (hs1 : w.heap.size + 4 ≤ w1.heap.size)
    (hB : Below w.heap.size w w1) (hnx : w1.heap[w.heap.size + 1]? = some (.cells (mCells m0 m1 m2 m3 m4 m5) 25 (0, 0))) (hwf : WAt V3 (w.heap.size + 2) (adds (adds noPg (ids xs)) (ids rs))) (hwp : WAt V3 (w.heap.size + 3) (adds MP (ids l)))
    (hfin : FinPost (flyW V3 bp bc ch lb j) w3 bp w.heap.size m0 m1 m2 m3 m4 m5 ownF ownP (ids l) (adds noPg (ids xs)) MP (adds noPg (ids rs))) :
    DoneSt w w3 bp (w.heap.size + 1) m0 m1 m2 m3 m4 m5 (adds (adds noPg (ids xs)) (ids rs)) (adds MP (ids l)) := by
  have hbcl := hjn.bcl
  have hchl := hjn.chl
  have hsV := hjn.size
  have hblk : ∀ x, x < w.heap.size + 4 → w3.heap[x]? = V3.heap[x]? := fun x hx => by
    rw [hfin.block x (by rw [flyW_size]; omega) (by omega) (fun h => by have := hoF4 x h; omega) (fun h => by have := hoP4 x h; omega), flyW_block _ _ _ _ _ _ _ (by omega) (by omega) (by omega)]
  have hold : ∀ x, x < w.heap.size + 4 → x ≠ w.heap.size + 2 → x ≠ w.heap.size + 3 → w3.heap[x]? = w1.heap[x]? := fun x hx h2 h3 => (hblk x hx).trans (hjn.old x (by omega) (by simp; omega))
  obtain ⟨oF, hF⟩ := hfin.free
  refine ⟨⟨oF, hF.congr ?_⟩, hfin.pend, hfin.c2, hfin.c3, hfin.c4, hfin.c5, hfin.c6, hfin.c7, hfin.c23, (hold _ (by omega) (by omega) (by omega)).trans hnx, hwf.keep (hblk _ (by omega)), hwp.keep (hblk _ (by omega)), ?_⟩
  · funext x
    simp [adds, noPg]
  · have h1 := hfin.size
    rw [flyW_size] at h1
    exact ⟨hfin.os.trans (hjn.os.trans hB.os), hfin.tape.trans (hjn.tape.trans hB.tape), hfin.output.trans (hjn.output.trans hB.output), by omega, fun x hx => (hold x (by omega) (by omega) (by omega)).trans (hB.block x hx)⟩

end Go.Proofs.YbulkcuksDoor
