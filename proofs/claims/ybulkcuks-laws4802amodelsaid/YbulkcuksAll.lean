/-
  unusedAll: the sets folded over the pages; what holds between the rounds.
-/
import Derived.Test.YbulkcuksSeq
namespace Go.Proofs.Ybulkcuks
open Go.RowKit Go.Shelf

/-- free, pending, fresh behind one page -/
def stp (s : (Nat → Bool) × (Nat → Bool) × (Nat → Bool)) (id : Nat) : (Nat → Bool) × (Nat → Bool) × (Nat → Bool) :=
  (if s.2.2 id then plus s.1 id else s.1, if s.2.2 id then s.2.1 else plus s.2.1 id, if s.2.2 id then minus s.2.2 id else s.2.2)
/-- .. behind the pages of a list -/
def st (R0 : Nat → Bool) (pre : List Nat) : (Nat → Bool) × (Nat → Bool) × (Nat → Bool) := pre.foldl stp (fun _ => false, fun _ => false, R0)

theorem st_snoc (R0 : Nat → Bool) (pre : List Nat) (x : Nat) : st R0 (pre ++ [x]) = stp (st R0 pre) x := by
  unfold st
  rw [List.foldl_append]
  rfl

/-- Between the rounds (w: the world where the loop begins): the pager, the box of p, the flag; all blocks of w but the pager's, the frames', the log's and the rows of own0 stay. -/
structure GS (w W : World) (pb cb fb tb eb base pp wb gb : Nat) (own0 : List Nat) (R0 : Nat → Bool) (pre : List Nat) : Prop where
  pg : ∃ own, PgS W pb cb fb tb eb base own (st R0 pre).1 (st R0 pre).2.1 (st R0 pre).2.2 (if pre.length = 0 then 0 else 1) ∧ ∀ x ∈ own, x ∈ own0 ∨ w.heap.size ≤ x
  cp : W.cell? ⟨pp, 0, none⟩ = some (.pointer (some ⟨pb, 0, none⟩))
  cw : Boxed W wb 4 (.bool (decide (pre.length ≠ 0)))
  os : W.os = w.os
  tape : W.tape = w.tape
  output : W.output = w.output
  size : w.heap.size ≤ W.heap.size
  block : ∀ i, i < w.heap.size → i ≠ pb → i ≠ fb → i ≠ gb → i ≠ wb → i ∉ own0 → W.heap[i]? = w.heap[i]?

theorem FSet.cells {w : World} {b o base : Nat} {own : List Nat} {M : Nat → Bool} (h : FSet w b o base own M) : ∀ x ∈ own, ∃ cur, w.heap[x]? = some (.cells cur 40 (0, 0)) := by
  obtain ⟨f, ws, v, hB, _, rfl⟩ := h
  intro x hx
  exact ownsRow_cells hB.own (by simpa using hx)

/-- The log's growth turns nothing of it. -/
theorem GS.logged {w W W' : World} {pb cb fb tb eb base pp wb gb : Nat} {own0 : List Nat} {R0 : Nat → Bool} {pre : List Nat} {v : Value} (h : GS w W pb cb fb tb eb base pp wb gb own0 R0 pre) (hbox : Boxed W gb 70 v) (hown : W.ownsRow w.heap.size 67 1 v pre.length (pre.map enc32))
    (hblk : ∀ i, i < W.heap.size → i ≠ gb → v.ownBlock ≠ some i → W'.heap[i]? = W.heap[i]?) (hs : W.heap.size ≤ W'.heap.size) (hos : W'.os = W.os) (htp : W'.tape = W.tape) (hou : W'.output = W.output)
    (hbase : base ≤ w.heap.size) (hpp : pp < w.heap.size) (hwb : wb < w.heap.size) (gpb : pb ≠ gb) (gcb : cb ≠ gb) (gfb : fb ≠ gb) (gtb : tb ≠ gb) (geb : eb ≠ gb) (gpp : pp ≠ gb) (gwb : wb ≠ gb) : GS w W' pb cb fb tb eb base pp wb gb own0 R0 pre := by
  have hz := h.size
  have hlow : ∀ i, i < w.heap.size → i ≠ gb → W'.heap[i]? = W.heap[i]? := fun i hi hne => hblk i (by omega) hne (fun e => by have := (hown.lt i e).1; omega)
  have h40 : ∀ (x : Nat) (cur : Array Value), W.heap[x]? = some (Obj.cells cur 40 (0, 0)) → W'.heap[x]? = W.heap[x]? := fun x cur hx => hblk x (Array.getElem?_eq_some_iff.1 hx).1
    (fun e => by rw [e, show W.heap[gb]? = _ from hbox] at hx; cases hx)
    (fun e => by obtain ⟨c2, h2⟩ := ownsRow_cells hown e; rw [h2] at hx; cases hx)
  obtain ⟨own, ⟨o1, o2, o3, hp, rfl⟩, ho⟩ := h.pg
  refine ⟨⟨_, ⟨o1, o2, o3, hp.keep hs (hp.cache.keep (fun x hx => ?_)) (hlow pb (by have := hp.lpb; omega) gpb) (fun x hx => ?_), rfl⟩, ho⟩, (World.cell?_of_block (a := ⟨pp, 0, none⟩) (hlow pp hpp gpp)).trans h.cp, (hlow wb hwb gwb).trans h.cw,
    hos.trans h.os, htp.trans h.tape, hou.trans h.output, Nat.le_trans hz hs, fun i hi h1 h2 h3 h4 h5 => (hlow i hi h3).trans (h.block i hi h1 h2 h3 h4 h5)⟩
  · have := hp.lcb; have := hp.lfb; have := hp.ltb; have := hp.leb
    rcases hx with rfl | rfl | rfl | rfl
    · exact hlow _ (by omega) gcb
    · exact hlow _ (by omega) gfb
    · exact hlow _ (by omega) gtb
    · exact hlow _ (by omega) geb
  · rcases hx with hx | hx | hx
    · obtain ⟨cur, hc⟩ := hp.free.cells x hx; exact h40 x cur hc
    · obtain ⟨cur, hc⟩ := hp.pend.cells x hx; exact h40 x cur hc
    · obtain ⟨cur, hc⟩ := hp.fresh.cells x hx; exact h40 x cur hc

end Go.Proofs.Ybulkcuks
