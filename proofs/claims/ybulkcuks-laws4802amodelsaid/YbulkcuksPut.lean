/-
  A block that is no cells turned: the list, the log, the pager stay.
-/
import Derived.Test.YbulkcuksAll
namespace Go.Proofs.Ybulkcuks
open Go.RowKit Go.Shelf

theorem put_cells {W : World} {d : Nat} {ob : Obj} (o : Obj) (hd : W.heap[d]? = some ob) (hn : ob.isCells = false) {x : Nat} {cs : Array Value} {t : TypeId} {fr : Nat × Nat} (hx : W.heap[x]? = some (.cells cs t fr)) : (W.putObj d o).heap[x]? = W.heap[x]? :=
  World.putObj_heap_other (fun e => by rw [e] at hx; rw [hx] at hd; cases hd; cases hn)

theorem put_cell {W : World} {d : Nat} {ob : Obj} (o : Obj) (hd : W.heap[d]? = some ob) (hn : ob.isCells = false) {b j : Nat} {v : Value} (hc : W.cell? ⟨b, j, none⟩ = some v) : (W.putObj d o).heap[b]? = W.heap[b]? := by
  refine World.putObj_heap_other (fun e => ?_)
  subst e
  simp only [World.cell?, hd] at hc
  cases ob <;> simp_all [Obj.isCells]

theorem Lg.put {W : World} {d ib lgb gb lsb base : Nat} {L pre : List Nat} {ob : Obj} (h : Lg W ib lgb gb lsb base L pre) (o : Obj) (hd : W.heap[d]? = some ob) (hn : ob.isCells = false) : Lg (W.putObj d o) ib lgb gb lsb base L pre := by
  obtain ⟨v, hb, hown⟩ := h.log
  refine ⟨(World.cell?_of_block (a := ⟨ib, 0, none⟩) (put_cell o hd hn h.ci)).trans h.ci, (World.cell?_of_block (a := ⟨lgb, 0, none⟩) (put_cell o hd hn h.cp)).trans h.cp, fun k hk => (World.cell?_of_block (a := ⟨lsb, k, none⟩) (put_cell o hd hn (h.row k hk))).trans (h.row k hk),
    ⟨v, (put_cells o hd hn hb).trans hb, ownsRow_of_block hown (fun x hx => by obtain ⟨cur, hc⟩ := ownsRow_cells hown hx; exact put_cells o hd hn hc)⟩, by simpa [World.putObj] using h.hb, h.gi, h.gl, h.gs, h.ni, h.nl, h.ns⟩

theorem Pg.put {W : World} {d pb cb fb tb eb base : Nat} {o1 o2 o3 : List Nat} {F P R : Nat → Bool} {ep : Int} {ob : Obj} (h : Pg W pb cb fb tb eb base o1 o2 o3 F P R ep) (o : Obj) (hd : W.heap[d]? = some ob) (hn : ob.isCells = false) : Pg (W.putObj d o) pb cb fb tb eb base o1 o2 o3 F P R ep := by
  refine h.keep (by simp [World.putObj]) (h.cache.keep (fun x hx => ?_)) (put_cell o hd hn h.c1) (fun x hx => ?_)
  · rcases hx with rfl | rfl | rfl | rfl
    · exact put_cell o hd hn h.cache.c0
    · exact put_cell o hd hn h.cache.mu
    · exact put_cells o hd hn h.cache.tab
    · exact put_cells o hd hn h.cache.ent
  · rcases hx with hx | hx | hx
    · obtain ⟨cur, hc⟩ := h.free.cells x hx; exact put_cells o hd hn hc
    · obtain ⟨cur, hc⟩ := h.pend.cells x hx; exact put_cells o hd hn hc
    · obtain ⟨cur, hc⟩ := h.fresh.cells x hx; exact put_cells o hd hn hc

/-- a store into a block that is none of the pager's -/
theorem Pg.store {W : World} {b j pb cb fb tb eb base : Nat} {o1 o2 o3 : List Nat} {F P R : Nat → Bool} {ep : Int} (h : Pg W pb cb fb tb eb base o1 o2 o3 F P R ep) (u : Value) (hb : base ≤ b) (ho : ∀ x, x ∈ o1 ∨ x ∈ o2 ∨ x ∈ o3 → x ≠ b) : Pg (W.setCell ⟨b, j, none⟩ u) pb cb fb tb eb base o1 o2 o3 F P R ep := by
  have hk : ∀ x, x ≠ b → (W.setCell ⟨b, j, none⟩ u).heap[x]? = W.heap[x]? := fun x hx => Below.heap_setCell W ⟨b, j, none⟩ u x hx
  have := h.lpb; have := h.lcb; have := h.lfb; have := h.ltb; have := h.leb
  refine h.keep (by simp [World.setCell]) (h.cache.keep (fun x hx => hk x ?_)) (hk pb (by omega)) (fun x hx => hk x (ho x hx))
  rcases hx with rfl | rfl | rfl | rfl <;> omega

theorem GS.put {w W : World} {d pb cb fb tb eb base pp wb gb : Nat} {own0 : List Nat} {R0 : Nat → Bool} {pre : List Nat} {ob : Obj} (h : GS w W pb cb fb tb eb base pp wb gb own0 R0 pre) (o : Obj) (hd : W.heap[d]? = some ob) (hn : ob.isCells = false) (hw : w.heap.size ≤ d) : GS w (W.putObj d o) pb cb fb tb eb base pp wb gb own0 R0 pre := by
  obtain ⟨own, ⟨o1, o2, o3, hp, rfl⟩, ho⟩ := h.pg
  exact ⟨⟨_, ⟨o1, o2, o3, hp.put o hd hn, rfl⟩, ho⟩, (World.cell?_of_block (a := ⟨pp, 0, none⟩) (put_cell o hd hn h.cp)).trans h.cp, (put_cells o hd hn h.cw).trans h.cw, h.os, h.tape, h.output, by simpa [World.putObj] using h.size,
    fun i hi h1 h2 h3 h4 h5 => (World.putObj_heap_other (by omega)).trans (h.block i hi h1 h2 h3 h4 h5)⟩

end Go.Proofs.Ybulkcuks
