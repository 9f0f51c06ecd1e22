/-
  A pageSet in memory ('PSet'), and pageSet.add(id).
-/
import Derived.Test.YbulkcuksSet
namespace Go.Proofs.Ybulkcuks
open Go.RowKit

/-- In block b from cell o on lies a pageSet that holds just the pages of M; 'own': the blocks of its rows. -/
def PSet (w : World) (b o base : Nat) (own : List Nat) (M : Nat → Bool) : Prop :=
  ∃ (f1 : Nat) (ws1 : List Nat) (v1 : Value) (f2 : Nat) (ws2 : List Nat) (v2 : Value), BAt w b o base f1 ws1 v1 ∧ BAt w b (o + 2) base f2 ws2 v2 ∧
    w.cell? ⟨b, o + 4, none⟩ = some (.int .i64 0) ∧ w.frozen? ⟨b, o + 4, none⟩ = false ∧ w.cell? ⟨b, o + 5, none⟩ = some (.int .i64 (countTo M 4096 : Nat)) ∧ w.frozen? ⟨b, o + 5, none⟩ = false ∧
    (∀ x, memB f1 ws1 x = M x) ∧ (∀ x, v1.ownBlock = some x → x ∈ own) ∧ (∀ x, v2.ownBlock = some x → x ∈ own) ∧ (∀ x, v1.ownBlock = some x → v2.ownBlock ≠ some x) ∧ (∀ x ∈ own, v1.ownBlock = some x ∨ v2.ownBlock = some x)

theorem PSet.blt {w : World} {b o base : Nat} {own : List Nat} {M : Nat → Bool} (h : PSet w b o base own M) : b < w.heap.size := by
  obtain ⟨_, _, _, _, _, _, h1, _⟩ := h; exact h1.blt

theorem PSet.olt {w : World} {b o base : Nat} {own : List Nat} {M : Nat → Bool} (h : PSet w b o base own M) : ∀ x ∈ own, x < w.heap.size ∧ base ≤ x ∧ x ≠ b := by
  obtain ⟨_, _, _, _, _, _, h1, h2, _, _, _, _, _, _, _, _, ho⟩ := h
  intro x hx
  rcases ho x hx with e | e
  · exact ⟨(h1.olt x e).2, (h1.olt x e).1, fun q => h1.ne (by rw [e, q])⟩
  · exact ⟨(h2.olt x e).2, (h2.olt x e).1, fun q => h2.ne (by rw [e, q])⟩

theorem ownsRow_cells {w : World} {base : Nat} {e : TypeId} {size : Nat} {v : Value} {n : Nat} {xs : List Value} (h : w.ownsRow base e size v n xs) {x : Nat} (hx : v.ownBlock = some x) : ∃ cur, w.heap[x]? = some (.cells cur e (0, 0)) := by
  rcases h.2 with ⟨rfl, _⟩ | ⟨g, cap, cur, rfl, hb, hgg, _⟩
  · simp [Value.ownBlock] at hx
  · simp [Value.ownBlock] at hx; subst hx; exact ⟨cur, hgg⟩

theorem PSet.cells {w : World} {b o base : Nat} {own : List Nat} {M : Nat → Bool} (h : PSet w b o base own M) : ∀ x ∈ own, ∃ cur, w.heap[x]? = some (.cells cur 40 (0, 0)) := by
  obtain ⟨_, _, _, _, _, _, h1, h2, _, _, _, _, _, _, _, _, ho⟩ := h
  intro x hx
  rcases ho x hx with e | e
  · exact ownsRow_cells h1.own e
  · exact ownsRow_cells h2.own e

/-- It stays while its six cells and its rows stay. -/
theorem PSet.keep {w w' : World} {b o base : Nat} {own : List Nat} {M : Nat → Bool} (h : PSet w b o base own M) (hc : ∀ j, o ≤ j → j < o + 6 → w'.cell? ⟨b, j, none⟩ = w.cell? ⟨b, j, none⟩)
    (hz : ∀ j, w'.frozen? ⟨b, j, none⟩ = w.frozen? ⟨b, j, none⟩) (hk : ∀ x ∈ own, w'.heap[x]? = w.heap[x]?) : PSet w' b o base own M := by
  obtain ⟨f1, ws1, v1, f2, ws2, v2, h1, h2, c4, z4, c5, z5, hM, o1, o2, hd, ho⟩ := h
  exact ⟨f1, ws1, v1, f2, ws2, v2, h1.keep (hc _ (by omega) (by omega)) (hc _ (by omega) (by omega)) hz (fun x hx => hk x (o1 x hx)), h2.keep (hc _ (by omega) (by omega)) (hc _ (by omega) (by omega)) hz (fun x hx => hk x (o2 x hx)),
    (hc _ (by omega) (by omega)).trans c4, (hz _).trans z4, (hc _ (by omega) (by omega)).trans c5, (hz _).trans z5, hM, o1, o2, hd, ho⟩

theorem PSet.below {w w' : World} {b o base : Nat} {own : List Nat} {M : Nat → Bool} (h : PSet w b o base own M) (hb : Below w.heap.size w w') : PSet w' b o base own M :=
  h.keep (fun _ _ _ => hb.cell (p := ⟨b, _, none⟩) h.blt) (fun _ => hb.frozen (p := ⟨b, _, none⟩) h.blt) (fun x hx => hb.block x (h.olt x hx).1)

/-- .. also over a call on another part of the same block, or on another block. -/
theorem PSet.other {w w' : World} {b o base o2 k2 : Nat} {own own2 : List Nat} {M : Nat → Bool} (h : PSet w b o base own M) (hf : Fr w w' b o2 k2 own2) (hd : o + 6 ≤ o2 ∨ o2 + k2 ≤ o) (ho : ∀ x ∈ own, x ∉ own2) : PSet w' b o base own M :=
  h.keep (fun j h1 h2 => hf.cell j (by omega)) hf.frz (fun x hx => hf.block x (h.olt x hx).1 (h.olt x hx).2.2 (ho x hx))

theorem PSet.apart {w w' : World} {b o base b2 o2 k2 : Nat} {own own2 : List Nat} {M : Nat → Bool} (h : PSet w b o base own M) (hf : Fr w w' b2 o2 k2 own2) (hb : b ≠ b2) (hbo : b ∉ own2) (ho : ∀ x ∈ own, x ∉ own2 ∧ x ≠ b2) : PSet w' b o base own M :=
  have hB : w'.heap[b]? = w.heap[b]? := hf.block b h.blt hb hbo
  h.keep (fun _ _ _ => World.cell?_of_block hB) (fun _ => World.frozen?_of_block hB) (fun x hx => hf.block x (h.olt x hx).1 (ho x hx).2 (ho x hx).1)

theorem PSet.congr {w : World} {b o base : Nat} {own : List Nat} {M N : Nat → Bool} (h : PSet w b o base own M) (e : M = N) : PSet w b o base own N := e ▸ h

/-- The nil set of a new struct. -/
theorem PSet.zero {w : World} {b o base : Nat} (h0 : w.cell? ⟨b, o, none⟩ = some (.int .i64 0)) (h1 : w.cell? ⟨b, o + 1, none⟩ = some (.slice none 0 0)) (h2 : w.cell? ⟨b, o + 2, none⟩ = some (.int .i64 0)) (h3 : w.cell? ⟨b, o + 3, none⟩ = some (.slice none 0 0))
    (h4 : w.cell? ⟨b, o + 4, none⟩ = some (.int .i64 0)) (h5 : w.cell? ⟨b, o + 5, none⟩ = some (.int .i64 0)) (hz : ∀ j, w.frozen? ⟨b, j, none⟩ = false) : PSet w b o base [] (fun _ => false) := by
  have hcnt : ∀ m, countTo (fun _ => false) m = 0 := fun m => by
    induction m with
    | zero => rfl
    | succ m ih => simp [countTo, ih]
  refine ⟨0, [], .slice none 0 0, 0, [], .slice none 0 0, ⟨h0, h1, hz _, hz _, World.ownsRow_nil _ _ _ _, by simp [Value.ownBlock], (fun x hx => by cases hx), by simp⟩, ⟨h2, h3, hz _, hz _, World.ownsRow_nil _ _ _ _, by simp [Value.ownBlock], (fun x hx => by cases hx), by simp⟩,
    h4, hz _, by rw [hcnt]; exact h5, hz _, fun x => mem_nil 0 x, ?_, ?_, ?_, ?_⟩
  · intro x hx; simp [Value.ownBlock] at hx
  · intro x hx; simp [Value.ownBlock] at hx
  · intro x hx; simp [Value.ownBlock] at hx
  · intro x hx; cases hx

theorem add_end {w w0 w1 w2 : World} {b o base f1 f2 id : Nat} {ws1 ws2 : List Nat} {v1 v2 v1' v2' : Value} {own : List Nat} {M : Nat → Bool} (hid : id < 4096) (hno : M id = false)
    (h1 : BAt w b o base f1 ws1 v1) (h2 : BAt w b (o + 2) base f2 ws2 v2) (hM : ∀ x, memB f1 ws1 x = M x) (o1 : ∀ x, v1.ownBlock = some x → x ∈ own) (o2 : ∀ x, v2.ownBlock = some x → x ∈ own)
    (hd : ∀ x, v1.ownBlock = some x → v2.ownBlock ≠ some x) (hb0 : Below w.heap.size w w0)
    (g1 : BAt w1 b o base (covF f1 ws1 (id / 64)) (setW f1 ws1 id) v1') (k1 : ∀ k, v1'.ownBlock = some k → v1.ownBlock = some k ∨ w0.heap.size ≤ k) (r1 : Fr w0 w1 b o 2 v1.ownBlock.toList)
    (g2 : BAt w2 b (o + 2) base (covF f2 ws2 (id / 64 / 64)) (setW f2 ws2 (id / 64)) v2') (k2 : ∀ k, v2'.ownBlock = some k → v2.ownBlock = some k ∨ w1.heap.size ≤ k) (r2 : Fr w1 w2 b (o + 2) 2 v2.ownBlock.toList)
    (c4 : w.cell? ⟨b, o + 4, none⟩ = some (.int .i64 0)) (z4 : w.frozen? ⟨b, o + 4, none⟩ = false) (c5 : w.cell? ⟨b, o + 5, none⟩ = some (.int .i64 (countTo M 4096 : Nat))) (z5 : w.frozen? ⟨b, o + 5, none⟩ = false) :
    w2.cell? ⟨b, o + 4, none⟩ = some (.int .i64 0) ∧ w2.frozen? ⟨b, o + 4, none⟩ = false ∧ w2.cell? ⟨b, o + 5, none⟩ = some (.int .i64 (countTo M 4096 : Nat)) ∧ w2.frozen? ⟨b, o + 5, none⟩ = false ∧
    ∃ own', PSet ((w2.setCell ⟨b, o + 4, none⟩ (.int .i64 0)).setCell ⟨b, o + 5, none⟩ (.int .i64 ((countTo M 4096 : Nat) + 1))) b o base own' (plus M id) ∧ (∀ x ∈ own', x ∈ own ∨ w.heap.size ≤ x) ∧
      Fr w ((w2.setCell ⟨b, o + 4, none⟩ (.int .i64 0)).setCell ⟨b, o + 5, none⟩ (.int .i64 ((countTo M 4096 : Nat) + 1))) b o 6 own := by
  have q1 : Fr w w0 b o 6 own := Fr.of_below hb0 b o 6 own h1.blt
  have q2 : Fr w0 w1 b o 6 v1.ownBlock.toList := r1.mono (Nat.le_refl _) (by omega) (fun x hx _ => hx)
  have q3 : Fr w1 w2 b o 6 v2.ownBlock.toList := r2.mono (by omega) (by omega) (fun x hx _ => hx)
  have m1 : ∀ x ∈ v1.ownBlock.toList, x ∈ own ∨ w.heap.size ≤ x := fun x hx => .inl (o1 x (by simpa using hx))
  have m2 : ∀ x ∈ v2.ownBlock.toList, x ∈ own ∨ w.heap.size ≤ x := fun x hx => .inl (o2 x (by simpa using hx))
  have q : Fr w w2 b o 6 own := (q1.trans q2 m1).trans q3 m2
  have hs0 := hb0.size
  have hs1 := r1.size
  have hs2 := r2.size
  have d1 : w2.cell? ⟨b, o + 4, none⟩ = some (.int .i64 0) := ((r2.cell _ (by omega)).trans ((r1.cell _ (by omega)).trans (hb0.cell (p := ⟨b, o + 4, none⟩) h1.blt))).trans c4
  have d2 : w2.cell? ⟨b, o + 5, none⟩ = some (.int .i64 (countTo M 4096 : Nat)) := ((r2.cell _ (by omega)).trans ((r1.cell _ (by omega)).trans (hb0.cell (p := ⟨b, o + 5, none⟩) h1.blt))).trans c5
  have y4 : w2.frozen? ⟨b, o + 4, none⟩ = false := (q.frz _).trans z4
  have y5 : w2.frozen? ⟨b, o + 5, none⟩ = false := (q.frz _).trans z5
  refine ⟨d1, y4, d2, y5, v1'.ownBlock.toList ++ v2'.ownBlock.toList, ?_, ?_, (q.setCell _ _ (by omega) (by omega)).setCell _ _ (by omega) (by omega)⟩
  · have hb : b < w2.heap.size := g2.blt
    have n45 : (⟨b, o + 5, none⟩ : Addr) ≠ ⟨b, o + 4, none⟩ := fun e => by have := congrArg Addr.off e; dsimp only at this; omega
    have hcell : ∀ j, j < o + 4 → ((w2.setCell ⟨b, o + 4, none⟩ (.int .i64 0)).setCell ⟨b, o + 5, none⟩ (.int .i64 ((countTo M 4096 : Nat) + 1))).cell? ⟨b, j, none⟩ = w2.cell? ⟨b, j, none⟩ := fun j hj => by
      rw [World.cell?_setCell_other _ _ _ _ (fun e => by have := congrArg Addr.off e; dsimp only at this; omega), World.cell?_setCell_other _ _ _ _ (fun e => by have := congrArg Addr.off e; dsimp only at this; omega)]
    have hfz : ∀ j, ((w2.setCell ⟨b, o + 4, none⟩ (.int .i64 0)).setCell ⟨b, o + 5, none⟩ (.int .i64 ((countTo M 4096 : Nat) + 1))).frozen? ⟨b, j, none⟩ = w2.frozen? ⟨b, j, none⟩ := fun j => by rw [World.frozen?_setCell, World.frozen?_setCell]
    have hblk : ∀ x, x ≠ b → ((w2.setCell ⟨b, o + 4, none⟩ (.int .i64 0)).setCell ⟨b, o + 5, none⟩ (.int .i64 ((countTo M 4096 : Nat) + 1))).heap[x]? = w2.heap[x]? := fun x hx => by
      rw [Below.heap_setCell _ _ _ _ hx, Below.heap_setCell _ _ _ _ hx]
    have v2lt : ∀ y, v2.ownBlock = some y → y < w.heap.size := fun y hy => (h2.olt y hy).2
    have g1' : BAt w2 b o base (covF f1 ws1 (id / 64)) (setW f1 ws1 id) v1' := g1.keep (r2.cell _ (by omega)) (r2.cell _ (by omega)) r2.frz (fun x hx => r2.block x (g1.olt x hx).2 (fun e => g1.ne (by rw [hx, e])) (fun hm => by
      have hm' : v2.ownBlock = some x := by simpa using hm
      rcases k1 x hx with e | e
      · exact hd x e hm'
      · have := v2lt x hm'; omega))
    have hp : ∀ x, memB (covF f1 ws1 (id / 64)) (setW f1 ws1 id) x = plus M id x := fun x => by rw [mem_set]; unfold plus; rw [hM]
    refine ⟨_, _, v1', _, _, v2', g1'.keep (hcell _ (by omega)) (hcell _ (by omega)) hfz (fun x hx => hblk x (fun e => g1.ne (by rw [hx, e]))), g2.keep (hcell _ (by omega)) (hcell _ (by omega)) hfz (fun x hx => hblk x (fun e => g2.ne (by rw [hx, e]))), ?_, (hfz _).trans y4, ?_, (hfz _).trans y5, hp, ?_, ?_, ?_, ?_⟩
    · rw [World.cell?_setCell_other _ _ _ _ n45]; exact World.cell?_setCell_same _ _ _ d1
    · rw [countTo_plus M id 4096 hid, hno]
      exact World.cell?_setCell_same _ _ _ ((World.cell?_setCell_other _ _ _ _ (fun e => n45 e.symm)).trans d2)
    · intro x hx; simp [hx]
    · intro x hx; simp [hx]
    · intro x hx hx2
      rcases k2 x hx2 with e | e
      · rcases k1 x hx with e' | e'
        · exact hd x e' e
        · have := v2lt x e; omega
      · have := (g1.olt x hx).2; omega
    · intro x hx
      rcases List.mem_append.1 hx with hx | hx
      · exact .inl (by simpa using hx)
      · exact .inr (by simpa using hx)
  · intro x hx
    rcases List.mem_append.1 hx with hx | hx
    · have hx' : v1'.ownBlock = some x := by simpa using hx
      rcases k1 x hx' with e | e
      · exact .inl (o1 x e)
      · right; omega
    · have hx' : v2'.ownBlock = some x := by simpa using hx
      rcases k2 x hx' with e | e
      · exact .inl (o2 x e)
      · right; omega

set_option maxRecDepth 100000 in
set_option maxHeartbeats 2000000 in
theorem add_any (b o base id : Nat) (own : List Nat) (M : Nat → Bool) (w : World) (h : PSet w b o base own M) (hbase : base ≤ w.heap.size) (hi : id < 4096) :
    Calls Yba.prog 27 #[.pointer (some ⟨b, o, none⟩), .int .u32 id] w fun e w' => e = .returned (.tuple #[]) ∧
      ∃ own', PSet w' b o base own' (plus M id) ∧ (∀ x ∈ own', x ∈ own ∨ w.heap.size ≤ x) ∧ Fr w w' b o 6 own := by
  have HP : Hid _ := h
  obtain ⟨f1, ws1, v1, f2, ws2, v2, h1, h2, c4, z4, c5, z5, hM, o1, o2, hd, ho⟩ := h
  have HO : Hid _ := And.intro o1 (And.intro o2 (And.intro hd ho))
  have H1 : Hid _ := h1
  have H2 : Hid _ := h2
  have HM : Hid _ := hM
  have e0 := h1.c0
  have e1 := h1.c1
  have hbd := h1.bd
  have hcl := countTo_le M 4096
  clear h1 h2 hM o1 o2 hd ho
  have hmem : memB f1 ws1 id = M id := HM.out id
  cases hb : M id
  · rw [hb] at hmem
    go_enter Yba.func27, Yba.ntmps27
    go_wp2_with fail
    refine (has_any f1 id base v1 ws1 w H1.out.own H1.out.lt (by omega) hi).mono ?_
    rintro e w0 ⟨rfl, hb0⟩
    rw [hmem]
    go_wp2_with fail
    refine (set_any b o base f1 id ws1 v1 w0 (H1.out.below hb0) (Nat.le_trans hbase hb0.size) hi).mono ?_
    rintro e w1 ⟨rfl, v1', g1, k1, r1⟩
    have H1' : Hid _ := And.intro g1 (And.intro k1 r1)
    have hb2 : BAt w1 b (o + 2) base f2 ws2 v2 := by
      have h2 := H2.out.below hb0
      refine h2.keep (r1.cell _ (by omega)) (r1.cell _ (by omega)) r1.frz (fun x hx => r1.block x (h2.olt x hx).2 (fun e => h2.ne (by rw [hx, e])) (fun hm => ?_))
      exact HO.out.2.2.1 x (by simpa using hm) hx
    have hs1 := r1.size
    clear g1 k1 r1
    go_wp2_with fail
    rw [show ((id : Int) / 64) = ((id / 64 : Nat) : Int) by omega]
    refine (set_any b (o + 2) base f2 (id / 64) ws2 v2 w1 hb2 (Nat.le_trans hbase (Nat.le_trans hb0.size hs1)) (by omega)).mono ?_
    rintro e w2 ⟨rfl, v2', g2, k2, r2⟩
    obtain ⟨g1, k1, r1⟩ := H1'.out
    obtain ⟨d4, y4, d5, y5, HE⟩ := add_end hi hb H1.out H2.out HM.out HO.out.1 HO.out.2.1 HO.out.2.2.1 hb0 g1 k1 r1 g2 k2 r2 c4 z4 c5 z5
    have HEE : Hid _ := HE
    clear HE g1 k1 r1 g2 k2 r2 hb2 e0 e1 c4 z4 c5 z5 hb0
    go_wp2
    go_end0
    exact ⟨rfl, HEE.out⟩
  · rw [hb] at hmem
    go_enter Yba.func27, Yba.ntmps27
    go_wp2_with fail
    refine (has_any f1 id base v1 ws1 w H1.out.own H1.out.lt (by omega) hi).mono ?_
    rintro e w0 ⟨rfl, hb0⟩
    rw [hmem]
    go_wp2
    refine bodyPost_ret (results_none rfl _ _ _) rfl ?_
    have h : PSet w b o base own M := HP.out
    exact ⟨rfl, own, (h.below hb0).congr (plus_of_mem M id hb).symm, fun x hx => .inl hx, Fr.of_below hb0 b o 6 own h.blt⟩

end Go.Proofs.Ybulkcuks
