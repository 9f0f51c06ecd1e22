/-
  The law's steps: fresh.set, one round of each of its loops, the state ahead of unusedAll and behind it.
-/
import Derived.Test.YbulkcuksAllWalk
import Derived.Test.YbulkcuksNew
namespace Go.Proofs.Ybulkcuks
open Go.RowKit Go.Shelf

theorem Ux.set {w w' : World} {l : List Nat} (h : Ux w w' l) {b j : Nat} (v : Value) (hb : b ∈ l) : Ux w (w'.setCell ⟨b, j, none⟩ v) l :=
  ⟨h.os, h.tape, h.output, by simpa [World.setCell] using h.size, fun i hi hl => (Below.heap_setCell w' ⟨b, j, none⟩ v i (fun e => hl (by have e' : i = b := e; rw [e']; exact hb))).trans (h.block i hi hl)⟩

theorem PgS.ux {w w' : World} {pb cb fb tb eb base : Nat} {own l : List Nat} {F P R : Nat → Bool} {ep : Int} (h : PgS w pb cb fb tb eb base own F P R ep) (hu : Ux w w' l) (hl : ∀ x ∈ l, base ≤ x ∧ x ∉ own) : PgS w' pb cb fb tb eb base own F P R ep := by
  obtain ⟨o1, o2, o3, hp, rfl⟩ := h
  have low : ∀ x, x < base → w'.heap[x]? = w.heap[x]? := fun x hx => hu.block x (by have := hp.hb; omega) (fun hm => by have := (hl x hm).1; omega)
  refine ⟨o1, o2, o3, hp.keep hu.size (hp.cache.keep (fun x hx => low x ?_)) (low _ hp.lpb) (fun x hx => hu.block x ?_ (fun hm => (hl x hm).2 ?_)), rfl⟩
  · have := hp.lcb; have := hp.lfb; have := hp.ltb; have := hp.leb
    rcases hx with rfl | rfl | rfl | rfl <;> assumption
  · rcases hx with hx | hx | hx
    · exact (hp.free.olt x hx).1
    · exact (hp.pend.olt x hx).1
    · exact (hp.fresh.olt x hx).1
  · simp only [List.mem_append]
    exact hx

theorem fset_calls (w : World) (pb cb fb tb eb base id : Nat) (own : List Nat) (F P R : Nat → Bool) (ep : Int) (h : PgS w pb cb fb tb eb base own F P R ep) (hi : id < 4096) :
    Calls Yba.prog 5 #[.pointer (some ⟨pb, 21, none⟩), .int .u32 id] w fun e w' => e = .returned (.tuple #[]) ∧ ∃ own', PgS w' pb cb fb tb eb base own' F P (plus R id) ep ∧ (∀ x ∈ own', x ∈ own ∨ w.heap.size ≤ x) ∧ Ux w w' (pb :: own) := by
  obtain ⟨o1, o2, o3, hp, rfl⟩ := h
  obtain ⟨f, ws, v, hB, hM, ho3⟩ := hp.fresh
  refine (set_any pb 21 base f id ws v w hB hp.hb hi).mono ?_
  rintro e w' ⟨rfl, v', hB', hv', hF⟩
  have ho : ∀ x ∈ v'.ownBlock.toList, x ∈ o3 ∨ w.heap.size ≤ x := fun x hx => by
    rcases hv' x (by simpa using hx) with q | q
    · left; rw [ho3]; simpa using q
    · exact .inr q
  obtain ⟨hP, hU⟩ := hp.set_fresh (R' := plus R id) (o3 := v'.ownBlock.toList) ⟨_, _, v', hB', (fun x => by rw [mem_set]; unfold plus; rw [hM]), rfl⟩ ho (by rw [ho3]; exact hF)
  refine ⟨rfl, o1 ++ (o2 ++ v'.ownBlock.toList), ⟨o1, o2, _, hP, rfl⟩, fun x hx => ?_, hU.mono (fun x hx _ => ?_)⟩
  · rw [List.mem_append, List.mem_append] at hx ⊢
    rcases hx with hx | hx | hx
    · exact .inl (.inl hx)
    · exact .inl (.inr (by simp [hx]))
    · rcases ho x hx with q | q
      · exact .inl (.inr (by simp [q]))
      · exact .inr q
  · simp only [List.mem_cons, List.mem_append] at hx ⊢
    rcases hx with e | e
    · exact .inl e
    · exact .inr (.inr (.inr e))

/-- one round of 'p.fresh.set(id); inFresh[id] = true' -/
theorem fresh_step {V wr W3 : World} {pb cb fb tb eb base a1 id : Nat} {own own' : List Nat} {R N : Nat → Bool} (hP : PgS W3 pb cb fb tb eb base own' noPg noPg R 0) (hw : WAt wr a1 N) (hqo : ∀ x ∈ own, V.heap.size ≤ x) (ho' : ∀ x ∈ own', x ∈ own ∨ wr.heap.size ≤ x)
    (hU : Ux V wr [pb, a1]) (hU' : Ux wr W3 (pb :: own)) (ha : a1 < V.heap.size) (hne : a1 ≠ pb) (hba : base ≤ a1) (hid : id < 512) :
    W3.cell? ⟨a1, id, none⟩ = some (.bool (N id)) ∧ W3.frozen? ⟨a1, id, none⟩ = false ∧ PgS (W3.setCell ⟨a1, id, none⟩ (.bool true)) pb cb fb tb eb base own' noPg noPg R 0 ∧ (∀ x ∈ own', V.heap.size ≤ x) ∧ WAt (W3.setCell ⟨a1, id, none⟩ (.bool true)) a1 (plus N id) ∧
      Ux V (W3.setCell ⟨a1, id, none⟩ (.bool true)) [pb, a1] := by
  have hs := hU.size
  have hao : a1 ∉ own := fun hx => by have := hqo a1 hx; omega
  have hw3 : WAt W3 a1 N := hw.keep (hU'.block a1 (by omega) (fun hm => by simp only [List.mem_cons] at hm; rcases hm with e | e; exact hne e; exact hao e))
  have hq' : ∀ x ∈ own', V.heap.size ≤ x := fun x hx => by
    rcases ho' x hx with h | h
    · exact hqo x h
    · omega
  refine ⟨hw3.cell id hid, hw3.frz id, ?_, hq', hw3.plus id hid, ?_⟩
  · exact hP.ux ((Ux.refl W3 [a1]).set _ (by simp)) (fun x hx => by simp at hx; subst hx; exact ⟨hba, fun hm => by have := hq' _ hm; omega⟩)
  · refine Ux.set (hU.trans hU' (fun x hx => ?_)) _ (by simp)
    simp only [List.mem_cons] at hx
    rcases hx with e | e
    · exact .inl (by simp [e])
    · exact .inr (hqo x e)

/-- the three tables -/
structure Tb (W : World) (a1 a2 a3 : Nat) (s : (Nat → Bool) × (Nat → Bool) × (Nat → Bool)) : Prop where
  t1 : WAt W a1 s.2.2
  t2 : WAt W a2 s.1
  t3 : WAt W a3 s.2.1

theorem Tb.keep {W W' : World} {a1 a2 a3 : Nat} {s : (Nat → Bool) × (Nat → Bool) × (Nat → Bool)} (h : Tb W a1 a2 a3 s) (hk : ∀ x, x = a1 ∨ x = a2 ∨ x = a3 → W'.heap[x]? = W.heap[x]?) : Tb W' a1 a2 a3 s :=
  ⟨h.t1.keep (hk _ (.inl rfl)), h.t2.keep (hk _ (.inr (.inl rfl))), h.t3.keep (hk _ (.inr (.inr rfl)))⟩

theorem Tb.below {W W' : World} {a1 a2 a3 : Nat} {s : (Nat → Bool) × (Nat → Bool) × (Nat → Bool)} (h : Tb W a1 a2 a3 s) (hb : Below W.heap.size W W') : Tb W' a1 a2 a3 s := ⟨h.t1.below hb, h.t2.below hb, h.t3.below hb⟩

theorem Tb.fresh {W : World} {a1 a2 a3 id : Nat} {s : (Nat → Bool) × (Nat → Bool) × (Nat → Bool)} (h : Tb W a1 a2 a3 s) (hs : s.2.2 id = true) (hi : id < 512) (n12 : a1 ≠ a2) (n13 : a1 ≠ a3) (n23 : a2 ≠ a3) :
    Tb ((W.setCell ⟨a1, id, none⟩ (.bool false)).setCell ⟨a2, id, none⟩ (.bool true)) a1 a2 a3 (stp s id) := by
  unfold stp
  simp only [hs, if_true]
  refine ⟨?_, ?_, ?_⟩
  · exact (h.t1.minus id hi).keep (Below.heap_setCell _ ⟨a2, id, none⟩ _ a1 n12)
  · exact (h.t2.keep (Below.heap_setCell _ ⟨a1, id, none⟩ _ a2 (fun e => n12 e.symm))).plus id hi
  · exact h.t3.keep ((Below.heap_setCell _ ⟨a2, id, none⟩ _ a3 (fun e => n23 e.symm)).trans (Below.heap_setCell _ ⟨a1, id, none⟩ _ a3 (fun e => n13 e.symm)))

theorem Tb.other {W : World} {a1 a2 a3 id : Nat} {s : (Nat → Bool) × (Nat → Bool) × (Nat → Bool)} (h : Tb W a1 a2 a3 s) (hs : s.2.2 id = false) (hi : id < 512) (n13 : a1 ≠ a3) (n23 : a2 ≠ a3) :
    Tb (W.setCell ⟨a3, id, none⟩ (.bool true)) a1 a2 a3 (stp s id) := by
  have hs' : ¬ s.2.2 id = true := by rw [hs]; decide
  unfold stp
  simp only [if_neg hs']
  refine ⟨?_, ?_, ?_⟩
  · exact h.t1.keep (Below.heap_setCell _ ⟨a3, id, none⟩ _ a1 n13)
  · exact h.t2.keep (Below.heap_setCell _ ⟨a3, id, none⟩ _ a2 n23)
  · exact h.t3.plus id hi

theorem seq_calls (w : World) (lsb n gb : Nat) : Calls Yba.prog 7 #[.slice (some ⟨lsb, 0, none⟩) n n, .pointer (some ⟨gb, 0, none⟩)] w fun e w' =>
    e = .returned (.func (.func 17) #[] #[.pointer (some ⟨w.heap.size, 0, none⟩), .pointer (some ⟨w.heap.size + 1, 0, none⟩)]) ∧ w' = (w.alloc (.cells #[.slice (some ⟨lsb, 0, none⟩) n n] 70)).alloc (.cells #[.pointer (some ⟨gb, 0, none⟩)] 91) := by
  go_enter Yba.func7, Yba.ntmps7
  go_wp2_with (fail)
  go_ret
  exact ⟨rfl, rfl⟩

/-- behind the log's box and the closure's -/
def U0 (V : World) (lsb n : Nat) : World := ((V.alloc (.cells #[.slice none 0 0] 70)).alloc (.cells #[.slice (some ⟨lsb, 0, none⟩) n n] 70)).alloc (.cells #[.pointer (some ⟨V.heap.size, 0, none⟩)] 91)

theorem U0_below (V : World) (lsb n : Nat) : Below V.heap.size V (U0 V lsb n) ∧ (U0 V lsb n).heap.size = V.heap.size + 3 :=
  ⟨(((Below.refl _ _).alloc (Nat.le_refl _) _).alloc (by simp) _).alloc (by simp; omega) _, by simp [U0]⟩

/-- the state ahead of unusedAll -/
theorem all_state {V : World} {pb cb fb tb eb base lsb : Nat} {own L : List Nat} {R0 : Nat → Bool} (hp : PgS V pb cb fb tb eb base own noPg noPg R0 0) (hl : LAt V lsb L.length L) (hls : lsb < V.heap.size) (hlb : base ≤ lsb) (hlo : lsb ∉ own) (hlen : L.length ≤ 1024) (hlt : ∀ x ∈ L, x < 512) :
    AllSt (U0 V lsb L.length) pb cb fb tb eb base (V.heap.size + 1) (V.heap.size + 2) V.heap.size lsb own R0 L := by
  obtain ⟨hB, hz⟩ := U0_below V lsb L.length
  have s1 : (V.alloc (.cells #[.slice none 0 0] 70)).heap.size = V.heap.size + 1 := by simp
  have s2 : ((V.alloc (.cells #[.slice none 0 0] 70)).alloc (.cells #[.slice (some ⟨lsb, 0, none⟩) L.length L.length] 70)).heap.size = V.heap.size + 2 := by simp
  have hg : (U0 V lsb L.length).heap[V.heap.size]? = some (.cells #[.slice none 0 0] 70 (0, 0)) :=
    (Below.heap_alloc _ _ _ (by omega)).trans ((Below.heap_alloc _ _ _ (by omega)).trans (heap_alloc_new V _))
  have hi : (U0 V lsb L.length).heap[V.heap.size + 1]? = some (.cells #[.slice (some ⟨lsb, 0, none⟩) L.length L.length] 70 (0, 0)) := by
    have := heap_alloc_new (V.alloc (.cells #[.slice none 0 0] 70)) (.cells #[.slice (some ⟨lsb, 0, none⟩) L.length L.length] 70)
    rw [s1] at this
    exact (Below.heap_alloc _ _ _ (by omega)).trans this
  have hq : (U0 V lsb L.length).heap[V.heap.size + 2]? = some (.cells #[.pointer (some ⟨V.heap.size, 0, none⟩)] 91 (0, 0)) := by
    have := heap_alloc_new ((V.alloc (.cells #[.slice none 0 0] 70)).alloc (.cells #[.slice (some ⟨lsb, 0, none⟩) L.length L.length] 70)) (.cells #[.pointer (some ⟨V.heap.size, 0, none⟩)] 91)
    rw [s2] at this
    exact this
  obtain ⟨hol, hpb, hfb, hbV⟩ := hp.olt
  have hlow : cb < base ∧ tb < base ∧ eb < base := by obtain ⟨_, _, _, q, _⟩ := hp; exact ⟨q.lcb, q.ltb, q.leb⟩
  obtain ⟨hcb, htb, heb⟩ := hlow
  refine ⟨hp.below hB, by rw [cell_of_row _ _ 0 _ 70 (0, 0) hi]; rfl, by rw [cell_of_row _ _ 0 _ 91 (0, 0) hq]; rfl, fun k hk => (hB.cell (p := ⟨lsb, k, none⟩) hls).trans (hl.val k hk), hg, by omega, by omega, by omega, by omega, by omega, by omega, by omega, by omega, by omega, by omega, by omega, hlen, fun x hx => by have := hlt x hx; omega, ?_⟩
  intro y hy
  rcases hy with rfl | rfl | rfl | rfl
  · exact ⟨by omega, by omega, by omega, fun hm => by have := (hol _ hm).1; omega⟩
  · exact ⟨by omega, by omega, by omega, fun hm => by have := (hol _ hm).1; omega⟩
  · exact ⟨by omega, by omega, by omega, hlo⟩
  · exact ⟨by omega, by omega, by omega, fun hm => by have := (hol _ hm).1; omega⟩

/-- what the law looks at behind unusedAll -/
structure Fin (w W : World) (pb cb fb tb eb base a1 a2 a3 gb lsb : Nat) (R0 : Nat → Bool) (L : List Nat) : Prop where
  pg : ∃ own, PgS W pb cb fb tb eb base own (st R0 L).1 (st R0 L).2.1 (st R0 L).2.2 (if L.length = 0 then 0 else 1)
  tbl : Tb W a1 a2 a3 (st R0 L)
  log : ∃ a cap, W.cell? ⟨gb, 0, none⟩ = some (.slice a L.length cap) ∧ ∀ k, k < L.length → ∃ g, a = some ⟨g, 0, none⟩ ∧ g < W.heap.size ∧ W.cell? ⟨g, k, none⟩ = some (.int .u32 (L.getD k 0 : Nat))
  row : ∀ k, k < L.length → W.cell? ⟨lsb, k, none⟩ = some (.int .u32 (L.getD k 0 : Nat))
  gbl : gb < W.heap.size
  lsl : lsb < W.heap.size
  bel : Below w.heap.size w W

theorem Fin.below {w W W' : World} {pb cb fb tb eb base a1 a2 a3 gb lsb : Nat} {R0 : Nat → Bool} {L : List Nat} (h : Fin w W pb cb fb tb eb base a1 a2 a3 gb lsb R0 L) (hb : Below W.heap.size W W') : Fin w W' pb cb fb tb eb base a1 a2 a3 gb lsb R0 L := by
  obtain ⟨own, hp⟩ := h.pg
  obtain ⟨a, cap, hc, hg⟩ := h.log
  refine ⟨⟨own, hp.below hb⟩, h.tbl.below hb, ⟨a, cap, (hb.cell (p := ⟨gb, 0, none⟩) h.gbl).trans hc, fun k hk => ?_⟩, fun k hk => (hb.cell (p := ⟨lsb, k, none⟩) h.lsl).trans (h.row k hk), Nat.lt_of_lt_of_le h.gbl hb.size, Nat.lt_of_lt_of_le h.lsl hb.size, h.bel.trans (hb.mono h.bel.size)⟩
  obtain ⟨g, e, hl, hv⟩ := hg k hk
  exact ⟨g, e, Nat.lt_of_lt_of_le hl hb.size, (hb.cell (p := ⟨g, k, none⟩) hl).trans hv⟩

theorem owns_list {W : World} {base : Nat} {v : Value} {L : List Nat} (h : W.ownsRow base 67 1 v L.length (L.map enc32)) :
    ∃ a cap, v = .slice a L.length cap ∧ ∀ k, k < L.length → ∃ g, a = some ⟨g, 0, none⟩ ∧ g < W.heap.size ∧ W.cell? ⟨g, k, none⟩ = some (.int .u32 (L.getD k 0 : Nat)) := by
  rcases h.2 with ⟨rfl, h0⟩ | ⟨g, cap, cur, rfl, hb, hg, hc, hm, hsz, htake⟩
  · exact ⟨none, 0, by rw [h0], fun k hk => by omega⟩
  · refine ⟨_, cap, rfl, fun k hk => ⟨g, rfl, (Array.getElem?_eq_some_iff.1 hg).1, ?_⟩⟩
    rw [cell_of_row W g k cur 67 (0, 0) hg]
    have h1 : (L.map enc32)[k]? = some (.int .u32 (L.getD k 0 : Nat)) := by
      rw [List.getElem?_map, List.getD_eq_getElem?_getD, List.getElem?_eq_getElem hk]; rfl
    rw [← htake, List.getElem?_take, if_pos (by omega)] at h1
    simpa using h1

theorem law_fin {w V W : World} {pb cb fb tb eb base a1 a2 a3 lsb : Nat} {own L : List Nat} {R0 : Nat → Bool} (hp : PgS V pb cb fb tb eb base own noPg noPg R0 0) (hT : Tb V a1 a2 a3 (st R0 L)) (hBV : Below w.heap.size w V) (hls : lsb < V.heap.size)
    (hLg : Lg W (V.heap.size + 1) (V.heap.size + 2) V.heap.size lsb ((U0 V lsb L.length).heap.size + 2) L L)
    (hG : GS (W0 (U0 V lsb L.length) pb) W pb cb fb tb eb base (U0 V lsb L.length).heap.size ((U0 V lsb L.length).heap.size + 1) V.heap.size own R0 L)
    (h1 : base ≤ a1) (h2 : base ≤ a2) (h3 : base ≤ a3) (ho1 : a1 ∉ own) (ho2 : a2 ∉ own) (ho3 : a3 ∉ own) (hw : w.heap.size ≤ pb) (hwf : w.heap.size ≤ fb) :
    Fin w W pb cb fb tb eb base a1 a2 a3 V.heap.size lsb R0 L := by
  obtain ⟨hB, hz⟩ := U0_below V lsb L.length
  obtain ⟨U, hU⟩ : ∃ U, U = U0 V lsb L.length := ⟨_, rfl⟩
  rw [← hU] at hB hz hLg hG
  clear hU
  have s0 : (W0 U pb).heap.size = U.heap.size + 2 := by simp [W0]
  have b0 : Below U.heap.size U (W0 U pb) := ((Below.refl U.heap.size U).alloc (Nat.le_refl _) (.cells #[.pointer (some ⟨pb, 0, none⟩)] 66)).alloc (by simp) (.cells #[.bool false] 4)
  obtain ⟨hol, hpb, hfb, hbV⟩ := hp.olt
  have hk : ∀ i, i < V.heap.size → i ≠ pb → i ≠ fb → i ∉ own → W.heap[i]? = V.heap[i]? := fun i hi q1 q2 q3 =>
    (hG.block i (by omega) q1 q2 (by omega) (by omega) q3).trans ((b0.block i (by omega)).trans (hB.block i hi))
  obtain ⟨own', hp', _⟩ := hG.pg
  obtain ⟨v, hbx, hown⟩ := hLg.log
  obtain ⟨a, cap, rfl, hg⟩ := owns_list hown
  have hzW := hG.size
  refine ⟨⟨own', hp'⟩, hT.keep (fun x hx => ?_), ⟨a, cap, hbx.cell, hg⟩, hLg.row, hbx.lt, by omega, hG.os.trans ?_, hG.tape.trans ?_, hG.output.trans ?_, by have := hBV.size; omega, fun i hi => ?_⟩
  · have l1 := hT.t1.lt
    have l2 := hT.t2.lt
    have l3 := hT.t3.lt
    rcases hx with rfl | rfl | rfl
    · exact hk _ l1 (by omega) (by omega) ho1
    · exact hk _ l2 (by omega) (by omega) ho2
    · exact hk _ l3 (by omega) (by omega) ho3
  · exact hB.os.trans hBV.os
  · exact hB.tape.trans hBV.tape
  · exact hB.output.trans hBV.output
  · exact (hk i (by have := hBV.size; omega) (by omega) (by omega) (fun hm => by have := (hol i hm).2; omega)).trans (hBV.block i hi)

end Go.Proofs.Ybulkcuks
