/-
  One round of unusedAll: behind the wait, behind unused.
-/
import Derived.Test.YbulkcuksPut
namespace Go.Proofs.Ybulkcuks
open Go.RowKit Go.Shelf

/-- Behind the wait: the epoch is 1, the flag is set. -/
structure GM (w W : World) (pb cb fb tb eb base pp wb gb : Nat) (own0 own : List Nat) (R0 : Nat → Bool) (pre : List Nat) : Prop where
  pg : PgS W pb cb fb tb eb base own (st R0 pre).1 (st R0 pre).2.1 (st R0 pre).2.2 1
  ho : ∀ x ∈ own, x ∈ own0 ∨ w.heap.size ≤ x
  cp : W.cell? ⟨pp, 0, none⟩ = some (.pointer (some ⟨pb, 0, none⟩))
  cw : Boxed W wb 4 (.bool true)
  os : W.os = w.os
  tape : W.tape = w.tape
  output : W.output = w.output
  size : w.heap.size ≤ W.heap.size
  block : ∀ i, i < w.heap.size → i ≠ pb → i ≠ fb → i ≠ gb → i ≠ wb → i ∉ own0 → W.heap[i]? = w.heap[i]?

theorem GS.mid {w W : World} {pb cb fb tb eb base pp wb gb : Nat} {own0 : List Nat} {R0 : Nat → Bool} {pre : List Nat} (h : GS w W pb cb fb tb eb base pp wb gb own0 R0 pre) (h0 : pre.length ≠ 0) : ∃ own, GM w W pb cb fb tb eb base pp wb gb own0 own R0 pre := by
  obtain ⟨own, hp, ho⟩ := h.pg
  rw [if_neg h0] at hp
  have hc := h.cw
  rw [show decide (pre.length ≠ 0) = true from decide_eq_true h0] at hc
  exact ⟨own, hp, ho, h.cp, hc, h.os, h.tape, h.output, h.size, h.block⟩

theorem GM.done {w W W4 : World} {pb cb fb tb eb base pp wb gb x : Nat} {own0 own : List Nat} {R0 : Nat → Bool} {pre : List Nat} (h : GM w W pb cb fb tb eb base pp wb gb own0 own R0 pre)
    (hu : UnPost W W4 pb cb fb tb eb base own (st R0 pre).1 (st R0 pre).2.1 (st R0 pre).2.2 1 x) (hpp : pp < w.heap.size) (hwb : wb < w.heap.size) (n1 : pp ≠ pb) (n2 : pp ≠ fb) (n3 : wb ≠ pb) (n4 : wb ≠ fb) (n5 : pp ∉ own0) (n6 : wb ∉ own0) :
    GS w W4 pb cb fb tb eb base pp wb gb own0 R0 (pre ++ [x]) := by
  obtain ⟨own', hp, ho', hU⟩ := hu
  have hz := h.size
  have hk : ∀ i, i < w.heap.size → i ≠ pb → i ≠ fb → i ∉ own0 → W4.heap[i]? = W.heap[i]? := fun i hi h1 h2 h3 => hU.block i (by omega) (fun hm => by
    simp only [List.mem_cons] at hm
    rcases hm with e | e | e
    · exact h1 e
    · exact h2 e
    · rcases h.ho i e with q | q
      · exact h3 q
      · omega)
  have hlen : (pre ++ [x]).length ≠ 0 := by simp
  refine ⟨⟨own', ?_, fun y hy => ?_⟩, (World.cell?_of_block (a := ⟨pp, 0, none⟩) (hk pp hpp n1 n2 n5)).trans h.cp, ?_, hU.os.trans h.os, hU.tape.trans h.tape, hU.output.trans h.output, Nat.le_trans hz hU.size, fun i hi h1 h2 h3 h4 h5 => (hk i hi h1 h2 h5).trans (h.block i hi h1 h2 h3 h4 h5)⟩
  · rw [if_neg hlen, st_snoc]; exact hp
  · rcases ho' y hy with q | q
    · exact h.ho y q
    · right; omega
  · rw [show decide ((pre ++ [x]).length ≠ 0) = true from decide_eq_true hlen]
    exact (hk wb hwb n3 n4 n6).trans h.cw

/-- behind the first round's wait and the flag's store -/
theorem GS.waited {w W W3 : World} {pb cb fb tb eb base pp wb gb : Nat} {own0 : List Nat} {R0 : Nat → Bool} {pre : List Nat} (h : GS w W pb cb fb tb eb base pp wb gb own0 R0 pre) (hc : CacheAt W3 cb fb tb eb 1) (hb : But W W3 fb)
    (hbw : base ≤ wb) (hwb : wb < w.heap.size) (n2 : pp ≠ fb) (n4 : wb ≠ fb) (n5 : pp ≠ wb) (n6 : wb ∉ own0) : ∃ own, GM w (W3.setCell ⟨wb, 0, none⟩ (.bool true)) pb cb fb tb eb base pp wb gb own0 own R0 pre := by
  obtain ⟨own, ⟨o1, o2, o3, hp, rfl⟩, ho⟩ := h.pg
  have hk : ∀ i, i ≠ fb → i ≠ wb → (W3.setCell ⟨wb, 0, none⟩ (.bool true)).heap[i]? = W.heap[i]? := fun i h1 h2 => (Below.heap_setCell W3 ⟨wb, 0, none⟩ _ i h2).trans (hb.block i h1)
  have hw3 : Boxed W3 wb 4 (.bool (decide (pre.length ≠ 0))) := (hb.block wb n4).trans h.cw
  refine ⟨_, ⟨o1, o2, o3, (hp.but hc hb).store _ hbw (fun x hx e => ?_), rfl⟩, ho, (World.cell?_of_block (a := ⟨pp, 0, none⟩) (hk pp n2 n5)).trans h.cp, hw3.set _, hb.os.trans h.os, hb.tape.trans h.tape, hb.output.trans h.output, ?_, fun i hi h1 h2 h3 h4 h5 => (hk i h2 h4).trans (h.block i hi h1 h2 h3 h4 h5)⟩
  · have hm : x ∈ o1 ++ (o2 ++ o3) := by rcases hx with hx | hx | hx <;> simp [hx]
    rcases ho x hm with q | q
    · exact n6 (e ▸ q)
    · omega
  · have : (W3.setCell ⟨wb, 0, none⟩ (.bool true)).heap.size = W3.heap.size := by simp [World.setCell]
    rw [this, hb.size]; exact h.size

/-- the list and the log stay where their blocks stay -/
theorem Lg.keep {W W' : World} {ib lgb gb lsb base : Nat} {L pre : List Nat} (h : Lg W ib lgb gb lsb base L pre) (hs : W.heap.size ≤ W'.heap.size) (hk : ∀ x, x = ib ∨ x = lgb ∨ x = lsb ∨ x = gb → W'.heap[x]? = W.heap[x]?) (hr : ∀ (x : Nat) (cur : Array Value), base ≤ x → W.heap[x]? = some (Obj.cells cur 67 (0, 0)) → W'.heap[x]? = W.heap[x]?) : Lg W' ib lgb gb lsb base L pre := by
  obtain ⟨v, hb, hown⟩ := h.log
  exact ⟨(World.cell?_of_block (a := ⟨ib, 0, none⟩) (hk ib (.inl rfl))).trans h.ci, (World.cell?_of_block (a := ⟨lgb, 0, none⟩) (hk lgb (.inr (.inl rfl)))).trans h.cp, fun k hkk => (World.cell?_of_block (a := ⟨lsb, k, none⟩) (hk lsb (.inr (.inr (.inl rfl))))).trans (h.row k hkk),
    ⟨v, (hk gb (.inr (.inr (.inr rfl)))).trans hb, ownsRow_of_block hown (fun x hx => by obtain ⟨cur, hc⟩ := ownsRow_cells hown hx; exact hr x cur (hown.lt x hx).1 hc)⟩, Nat.le_trans h.hb hs, h.gi, h.gl, h.gs, h.ni, h.nl, h.ns⟩

theorem PgS.cells {W : World} {pb cb fb tb eb base : Nat} {own : List Nat} {F P R : Nat → Bool} {ep : Int} (h : PgS W pb cb fb tb eb base own F P R ep) : (∀ x ∈ own, ∃ cur, W.heap[x]? = some (.cells cur 40 (0, 0))) ∧ pb < base ∧ fb < base := by
  obtain ⟨o1, o2, o3, hp, rfl⟩ := h
  refine ⟨fun x hx => ?_, hp.lpb, hp.lfb⟩
  simp only [List.mem_append] at hx
  rcases hx with hx | hx | hx
  · exact hp.free.cells x hx
  · exact hp.pend.cells x hx
  · exact hp.fresh.cells x hx

/-- one round's end -/
theorem round_end {w W W' W4 : World} {r : Loop} {pb cb fb tb eb base pp wb gb ib lgb lsb x : Nat} {own0 own L pre : List Nat} {R0 : Nat → Bool} (hLg : Lg W ib lgb gb lsb w.heap.size L (pre ++ [x])) (hR : Rec w.heap.size r W)
    (hs : W'.heap.size = W.heap.size) (hk : ∀ i, i ≠ fb → i ≠ wb → W'.heap[i]? = W.heap[i]?) (hM : GM w W' pb cb fb tb eb base pp wb gb own0 own R0 pre)
    (hu : UnPost W' W4 pb cb fb tb eb base own (st R0 pre).1 (st R0 pre).2.1 (st R0 pre).2.2 1 x) (hb : base ≤ w.heap.size) (hpp : pp < w.heap.size) (hwb : wb < w.heap.size) (n1 : pp ≠ pb) (n2 : pp ≠ fb) (n3 : wb ≠ pb) (n4 : wb ≠ fb) (n5 : pp ∉ own0) (n6 : wb ∉ own0)
    (hd : ∀ y, y = ib ∨ y = lgb ∨ y = lsb ∨ y = gb → y < w.heap.size ∧ y ≠ pb ∧ y ≠ fb ∧ y ≠ wb ∧ y ∉ own0) :
    W4.heap[w.heap.size + 1]? = W.heap[w.heap.size + 1]? ∧ W4.heap[w.heap.size]? = W.heap[w.heap.size]? ∧ Lg W4 ib lgb gb lsb w.heap.size L (pre ++ [x]) ∧ GS w W4 pb cb fb tb eb base pp wb gb own0 R0 (pre ++ [x]) := by
  have hG := hM.done hu hpp hwb n1 n2 n3 n4 n5 n6
  obtain ⟨ho, lp, lf⟩ := hM.pg.cells
  obtain ⟨own', _, _, hU⟩ := hu
  have hkey : ∀ y, y < W.heap.size → y ≠ pb → y ≠ fb → y ≠ wb → y ∉ own → W4.heap[y]? = W.heap[y]? := fun y hy h1 h2 h3 h4 =>
    (hU.block y (by omega) (fun hm => by simp only [List.mem_cons] at hm; rcases hm with e | e | e; exact h1 e; exact h2 e; exact h4 e)).trans (hk y h2 h3)
  have hlt1 : w.heap.size + 1 < W.heap.size := (Array.getElem?_eq_some_iff.1 hR.1).1
  have hz := hM.size
  refine ⟨hkey _ hlt1 (by omega) (by omega) (by omega) (fun hm => ?_), hkey _ (by omega) (by omega) (by omega) (by omega) (fun hm => ?_), hLg.keep (by rw [← hs]; exact hU.size) (fun y hy => ?_) (fun y cur hy hc => ?_), hG⟩
  · obtain ⟨cur, hc⟩ := ho _ hm
    rw [hk _ (by omega) (by omega), hR.1] at hc
    cases hc
  · obtain ⟨cur, hc⟩ := ho _ hm
    rw [hk _ (by omega) (by omega), hR.2] at hc
    cases hc
  · obtain ⟨d1, d2, d3, d4, d5⟩ := hd y hy
    refine hkey y (by omega) d2 d3 d4 (fun hm => ?_)
    rcases hM.ho y hm with q | q
    · exact d5 q
    · omega
  · refine hkey y (Array.getElem?_eq_some_iff.1 hc).1 (by omega) (by omega) (by omega) (fun hm => ?_)
    obtain ⟨cur', hc'⟩ := ho _ hm
    rw [hk _ (by omega) (by omega), hc] at hc'
    cases hc'

end Go.Proofs.Ybulkcuks
