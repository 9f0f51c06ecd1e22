/-
  The pager in memory ('Pg'); unused.
-/
import Derived.Test.YbulkcuksClear
import Derived.Test.YbulkcuksDrop
namespace Go.Proofs.Ybulkcuks
open Go.RowKit

/-- what a call leaves alone: all old blocks but those of the list -/
structure Ux (w w' : World) (touch : List Nat) : Prop where
  os : w'.os = w.os
  tape : w'.tape = w.tape
  output : w'.output = w.output
  size : w.heap.size ≤ w'.heap.size
  block : ∀ i, i < w.heap.size → i ∉ touch → w'.heap[i]? = w.heap[i]?

theorem Ux.refl (w : World) (l : List Nat) : Ux w w l := ⟨rfl, rfl, rfl, Nat.le_refl _, fun _ _ _ => rfl⟩
theorem Ux.trans {a b c : World} {l l2 : List Nat} (h : Ux a b l) (k : Ux b c l2) (hs : ∀ x ∈ l2, x ∈ l ∨ a.heap.size ≤ x) : Ux a c l :=
  ⟨k.os.trans h.os, k.tape.trans h.tape, k.output.trans h.output, Nat.le_trans h.size k.size, fun i hi hl => (k.block i (Nat.lt_of_lt_of_le hi h.size) (fun hx => by rcases hs i hx with e | e; exact hl e; omega)).trans (h.block i hi hl)⟩
theorem Ux.of_but {w w' : World} {fb : Nat} (h : But w w' fb) : Ux w w' [fb] := ⟨h.os, h.tape, h.output, Nat.le_of_eq h.size.symm, fun i _ hl => h.block i (fun e => hl (by simp [e]))⟩
theorem Ux.of_below {w w' : World} (h : Below w.heap.size w w') (l : List Nat) : Ux w w' l := ⟨h.os, h.tape, h.output, h.size, fun i hi _ => h.block i hi⟩
theorem Ux.of_fr {w w' : World} {b o k : Nat} {own : List Nat} (h : Fr w w' b o k own) : Ux w w' (b :: own) := ⟨h.os, h.tape, h.output, h.size, fun i hi hl => h.block i hi (fun e => hl (by simp [e])) (fun e => hl (by simp [e]))⟩
theorem Ux.mono {w w' : World} {l l2 : List Nat} (h : Ux w w' l) (hs : ∀ x ∈ l, x < w.heap.size → x ∈ l2) : Ux w w' l2 := ⟨h.os, h.tape, h.output, h.size, fun i hi hl => h.block i hi (fun e => hl (hs i e hi))⟩
theorem Ux.below {w w' : World} {l : List Nat} {B : Nat} (h : Ux w w' l) (hB : B ≤ w.heap.size) (hl : ∀ x ∈ l, B ≤ x) : Below B w w' := ⟨h.os, h.tape, h.output, h.size, fun i hi => h.block i (by omega) (fun e => by have := hl i e; omega)⟩

/-- The pager at pb, its cache at cb ..; free holds F, pending P, fresh R; own1 .. own3: the blocks of their rows, all from base on. -/
structure Pg (w : World) (pb cb fb tb eb base : Nat) (own1 own2 own3 : List Nat) (F P R : Nat → Bool) (ep : Int) : Prop where
  c1 : w.cell? ⟨pb, 1, none⟩ = some (.pointer (some ⟨cb, 0, none⟩))
  free : PSet w pb 9 base own1 F
  pend : PSet w pb 15 base own2 P
  fresh : FSet w pb 21 base own3 R
  cache : CacheAt w cb fb tb eb ep
  lpb : pb < base
  lcb : cb < base
  lfb : fb < base
  ltb : tb < base
  leb : eb < base
  npc : pb ≠ cb
  npf : pb ≠ fb
  npt : pb ≠ tb
  npe : pb ≠ eb
  ncf : cb ≠ fb
  ntf : tb ≠ fb
  nef : eb ≠ fb
  d12 : ∀ x ∈ own1, x ∉ own2
  d13 : ∀ x ∈ own1, x ∉ own3
  d23 : ∀ x ∈ own2, x ∉ own3
  hb : base ≤ w.heap.size

theorem FSet.olt {w : World} {b o base : Nat} {own : List Nat} {M : Nat → Bool} (h : FSet w b o base own M) : ∀ x ∈ own, x < w.heap.size ∧ base ≤ x ∧ x ≠ b := by
  obtain ⟨f, ws, v, hB, _, rfl⟩ := h
  intro x hx
  have hx' : v.ownBlock = some x := by simpa using hx
  exact ⟨(hB.olt x hx').2, (hB.olt x hx').1, fun q => hB.ne (by rw [hx', q])⟩

theorem FSet.keep {w w' : World} {b o base : Nat} {own : List Nat} {M : Nat → Bool} (h : FSet w b o base own M) (hc : ∀ j, o ≤ j → j < o + 2 → w'.cell? ⟨b, j, none⟩ = w.cell? ⟨b, j, none⟩)
    (hz : ∀ j, w'.frozen? ⟨b, j, none⟩ = w.frozen? ⟨b, j, none⟩) (hk : ∀ x ∈ own, w'.heap[x]? = w.heap[x]?) : FSet w' b o base own M := by
  obtain ⟨f, ws, v, hB, hM, rfl⟩ := h
  exact ⟨f, ws, v, hB.keep (hc _ (by omega) (by omega)) (hc _ (by omega) (by omega)) hz (fun x hx => hk x (by simp [hx])), hM, rfl⟩

/-- The pager stays while its block, its cache's blocks and its rows stay. -/
theorem Pg.keep {w w' : World} {pb cb fb tb eb base : Nat} {own1 own2 own3 : List Nat} {F P R : Nat → Bool} {ep : Int} (h : Pg w pb cb fb tb eb base own1 own2 own3 F P R ep) (hs : w.heap.size ≤ w'.heap.size) (hc : CacheAt w' cb fb tb eb ep)
    (hpb : w'.heap[pb]? = w.heap[pb]?) (hk : ∀ x, x ∈ own1 ∨ x ∈ own2 ∨ x ∈ own3 → w'.heap[x]? = w.heap[x]?) : Pg w' pb cb fb tb eb base own1 own2 own3 F P R ep := by
  have hcell : ∀ j, w'.cell? ⟨pb, j, none⟩ = w.cell? ⟨pb, j, none⟩ := fun j => World.cell?_of_block (a := ⟨pb, j, none⟩) hpb
  have hfz : ∀ j, w'.frozen? ⟨pb, j, none⟩ = w.frozen? ⟨pb, j, none⟩ := fun j => World.frozen?_of_block (a := ⟨pb, j, none⟩) hpb
  exact ⟨(hcell 1).trans h.c1, h.free.keep (fun j _ _ => hcell j) hfz (fun x hx => hk x (.inl hx)), h.pend.keep (fun j _ _ => hcell j) hfz (fun x hx => hk x (.inr (.inl hx))), h.fresh.keep (fun j _ _ => hcell j) hfz (fun x hx => hk x (.inr (.inr hx))), hc,
    h.lpb, h.lcb, h.lfb, h.ltb, h.leb, h.npc, h.npf, h.npt, h.npe, h.ncf, h.ntf, h.nef, h.d12, h.d13, h.d23, Nat.le_trans h.hb hs⟩

theorem CacheAt.keep {w w' : World} {cb fb tb eb : Nat} {ep : Int} (h : CacheAt w cb fb tb eb ep) (hk : ∀ x, x = cb ∨ x = fb ∨ x = tb ∨ x = eb → w'.heap[x]? = w.heap[x]?) : CacheAt w' cb fb tb eb ep := by
  have h1 : ∀ j, w'.cell? ⟨cb, j, none⟩ = w.cell? ⟨cb, j, none⟩ := fun j => World.cell?_of_block (a := ⟨cb, j, none⟩) (hk cb (.inl rfl))
  have h2 : ∀ j, w'.cell? ⟨fb, j, none⟩ = w.cell? ⟨fb, j, none⟩ := fun j => World.cell?_of_block (a := ⟨fb, j, none⟩) (hk fb (.inr (.inl rfl)))
  have h3 : ∀ j, w'.frozen? ⟨fb, j, none⟩ = w.frozen? ⟨fb, j, none⟩ := fun j => World.frozen?_of_block (a := ⟨fb, j, none⟩) (hk fb (.inr (.inl rfl)))
  exact ⟨(h1 0).trans h.c0, (h1 4).trans h.c4, (hk tb (.inr (.inr (.inl rfl)))).trans h.tab, (hk eb (.inr (.inr (.inr rfl)))).trans h.ent, (h2 0).trans h.mu, (h3 0).trans h.muz, (h2 36).trans h.epc, (h3 36).trans h.epz, fun i hi => (h2 _).trans (h.slot i hi)⟩

/-- a page goes to free -/
theorem Pg.add_free {w w' : World} {pb cb fb tb eb base : Nat} {own1 own2 own3 o1 : List Nat} {F F' P R : Nat → Bool} {ep : Int} (h : Pg w pb cb fb tb eb base own1 own2 own3 F P R ep) (hp : PSet w' pb 9 base o1 F') (ho : ∀ x ∈ o1, x ∈ own1 ∨ w.heap.size ≤ x) (hf : Fr w w' pb 9 6 own1) :
    Pg w' pb cb fb tb eb base o1 own2 own3 F' P R ep ∧ Ux w w' (pb :: own1) := by
  have hU := Ux.of_fr hf
  have hcl : ∀ x ∈ own1, base ≤ x := fun x hx => (h.free.olt x hx).2.1
  have hk : ∀ x, x < base → x ≠ pb → w'.heap[x]? = w.heap[x]? := fun x hx hp => hf.block x (by have := h.hb; omega) hp (fun hm => by have := hcl x hm; omega)
  refine ⟨⟨(hf.cell 1 (by omega)).trans h.c1, hp, h.pend.other hf (by omega) (fun x hx hx2 => h.d12 x hx2 hx), h.fresh.keep (fun j h1 h2 => hf.cell j (by omega)) hf.frz (fun x hx => hf.block x (h.fresh.olt x hx).1 (h.fresh.olt x hx).2.2 (fun hm => h.d13 x hm hx)), h.cache.keep (fun x hx => ?_),
    h.lpb, h.lcb, h.lfb, h.ltb, h.leb, h.npc, h.npf, h.npt, h.npe, h.ncf, h.ntf, h.nef, fun x hx hx2 => ?_, fun x hx hx2 => ?_, h.d23, Nat.le_trans h.hb hf.size⟩, hU⟩
  · rcases hx with rfl | rfl | rfl | rfl
    · exact hk _ h.lcb (fun e => h.npc e.symm)
    · exact hk _ h.lfb (fun e => h.npf e.symm)
    · exact hk _ h.ltb (fun e => h.npt e.symm)
    · exact hk _ h.leb (fun e => h.npe e.symm)
  · rcases ho x hx with e | e
    · exact h.d12 x e hx2
    · have := (h.pend.olt x hx2).1; omega
  · rcases ho x hx with e | e
    · exact h.d13 x e hx2
    · have := (h.fresh.olt x hx2).1; omega

/-- a page goes to pending -/
theorem Pg.add_pend {w w' : World} {pb cb fb tb eb base : Nat} {own1 own2 own3 o2 : List Nat} {F P P' R : Nat → Bool} {ep : Int} (h : Pg w pb cb fb tb eb base own1 own2 own3 F P R ep) (hp : PSet w' pb 15 base o2 P') (ho : ∀ x ∈ o2, x ∈ own2 ∨ w.heap.size ≤ x) (hf : Fr w w' pb 15 6 own2) :
    Pg w' pb cb fb tb eb base own1 o2 own3 F P' R ep ∧ Ux w w' (pb :: own2) := by
  have hU := Ux.of_fr hf
  have hcl : ∀ x ∈ own2, base ≤ x := fun x hx => (h.pend.olt x hx).2.1
  have hk : ∀ x, x < base → x ≠ pb → w'.heap[x]? = w.heap[x]? := fun x hx hp => hf.block x (by have := h.hb; omega) hp (fun hm => by have := hcl x hm; omega)
  refine ⟨⟨(hf.cell 1 (by omega)).trans h.c1, h.free.other hf (by omega) (fun x hx hx2 => h.d12 x hx hx2), hp, h.fresh.keep (fun j h1 h2 => hf.cell j (by omega)) hf.frz (fun x hx => hf.block x (h.fresh.olt x hx).1 (h.fresh.olt x hx).2.2 (fun hm => h.d23 x hm hx)), h.cache.keep (fun x hx => ?_),
    h.lpb, h.lcb, h.lfb, h.ltb, h.leb, h.npc, h.npf, h.npt, h.npe, h.ncf, h.ntf, h.nef, fun x hx hx2 => ?_, h.d13, fun x hx hx2 => ?_, Nat.le_trans h.hb hf.size⟩, hU⟩
  · rcases hx with rfl | rfl | rfl | rfl
    · exact hk _ h.lcb (fun e => h.npc e.symm)
    · exact hk _ h.lfb (fun e => h.npf e.symm)
    · exact hk _ h.ltb (fun e => h.npt e.symm)
    · exact hk _ h.leb (fun e => h.npe e.symm)
  · rcases ho x hx2 with e | e
    · exact h.d12 x hx e
    · have := (h.free.olt x hx).1; omega
  · rcases ho x hx with e | e
    · exact h.d23 x e hx2
    · have := (h.fresh.olt x hx2).1; omega

/-- fresh turns -/
theorem Pg.set_fresh {w w' : World} {pb cb fb tb eb base k : Nat} {own1 own2 own3 o3 : List Nat} {F P R R' : Nat → Bool} {ep : Int} (h : Pg w pb cb fb tb eb base own1 own2 own3 F P R ep) (hp : FSet w' pb 21 base o3 R') (ho : ∀ x ∈ o3, x ∈ own3 ∨ w.heap.size ≤ x) (hf : Fr w w' pb 21 k own3) :
    Pg w' pb cb fb tb eb base own1 own2 o3 F P R' ep ∧ Ux w w' (pb :: own3) := by
  have hU := Ux.of_fr hf
  have hcl : ∀ x ∈ own3, base ≤ x := fun x hx => (h.fresh.olt x hx).2.1
  have hk : ∀ x, x < base → x ≠ pb → w'.heap[x]? = w.heap[x]? := fun x hx hp => hf.block x (by have := h.hb; omega) hp (fun hm => by have := hcl x hm; omega)
  refine ⟨⟨(hf.cell 1 (by omega)).trans h.c1, h.free.other hf (by omega) (fun x hx hx2 => h.d13 x hx hx2), h.pend.other hf (by omega) (fun x hx hx2 => h.d23 x hx hx2), hp, h.cache.keep (fun x hx => ?_),
    h.lpb, h.lcb, h.lfb, h.ltb, h.leb, h.npc, h.npf, h.npt, h.npe, h.ncf, h.ntf, h.nef, h.d12, fun x hx hx2 => ?_, fun x hx hx2 => ?_, Nat.le_trans h.hb hf.size⟩, hU⟩
  · rcases hx with rfl | rfl | rfl | rfl
    · exact hk _ h.lcb (fun e => h.npc e.symm)
    · exact hk _ h.lfb (fun e => h.npf e.symm)
    · exact hk _ h.ltb (fun e => h.npt e.symm)
    · exact hk _ h.leb (fun e => h.npe e.symm)
  · rcases ho x hx2 with e | e
    · exact h.d13 x hx e
    · have := (h.free.olt x hx).1; omega
  · rcases ho x hx2 with e | e
    · exact h.d23 x hx e
    · have := (h.pend.olt x hx).1; omega

/-- the cache's lock, the epoch: block fb alone -/
theorem Pg.but {w w' : World} {pb cb fb tb eb base : Nat} {own1 own2 own3 : List Nat} {F P R : Nat → Bool} {ep ep' : Int} (h : Pg w pb cb fb tb eb base own1 own2 own3 F P R ep) (hc : CacheAt w' cb fb tb eb ep') (hb : But w w' fb) :
    Pg w' pb cb fb tb eb base own1 own2 own3 F P R ep' := by
  have hpb : w'.heap[pb]? = w.heap[pb]? := hb.block pb h.npf
  have hk : ∀ x, x ∈ own1 ∨ x ∈ own2 ∨ x ∈ own3 → w'.heap[x]? = w.heap[x]? := fun x hx => hb.block x (fun e => by
    have := h.lfb
    rcases hx with hx | hx | hx
    · have := (h.free.olt x hx).2.1; omega
    · have := (h.pend.olt x hx).2.1; omega
    · have := (h.fresh.olt x hx).2.1; omega)
  have hcell : ∀ j, w'.cell? ⟨pb, j, none⟩ = w.cell? ⟨pb, j, none⟩ := fun j => World.cell?_of_block (a := ⟨pb, j, none⟩) hpb
  have hfz : ∀ j, w'.frozen? ⟨pb, j, none⟩ = w.frozen? ⟨pb, j, none⟩ := fun j => World.frozen?_of_block (a := ⟨pb, j, none⟩) hpb
  exact ⟨(hcell 1).trans h.c1, h.free.keep (fun j _ _ => hcell j) hfz (fun x hx => hk x (.inl hx)), h.pend.keep (fun j _ _ => hcell j) hfz (fun x hx => hk x (.inr (.inl hx))), h.fresh.keep (fun j _ _ => hcell j) hfz (fun x hx => hk x (.inr (.inr hx))), hc,
    h.lpb, h.lcb, h.lfb, h.ltb, h.leb, h.npc, h.npf, h.npt, h.npe, h.ncf, h.ntf, h.nef, h.d12, h.d13, h.d23, by rw [hb.size]; exact h.hb⟩

theorem Pg.below {w w' : World} {pb cb fb tb eb base : Nat} {own1 own2 own3 : List Nat} {F P R : Nat → Bool} {ep : Int} (h : Pg w pb cb fb tb eb base own1 own2 own3 F P R ep) (hb : Below w.heap.size w w') : Pg w' pb cb fb tb eb base own1 own2 own3 F P R ep := by
  have h0 := h.hb
  refine h.keep hb.size (h.cache.keep (fun x hx => hb.block x ?_)) (hb.block pb (by have := h.lpb; omega)) (fun x hx => hb.block x ?_)
  · have := h.lcb; have := h.lfb; have := h.ltb; have := h.leb
    rcases hx with rfl | rfl | rfl | rfl <;> omega
  · rcases hx with hx | hx | hx
    · exact (h.free.olt x hx).1
    · exact (h.pend.olt x hx).1
    · exact (h.fresh.olt x hx).1

end Go.Proofs.Ybulkcuks
