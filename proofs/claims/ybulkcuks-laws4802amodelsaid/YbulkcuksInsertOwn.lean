/-
  slices.Insert(s, 0, make([]uint64, m)...) on a slice that the call owns: m zeros ahead of what it held.
-/
import Derived.Test.YbulkcuksInsert
namespace Go.Proofs.Ybulkcuks
open Go.RowKit

theorem insert_own (base n m vb : Nat) (v : Value) (xs : List Value) (w : World) (hown : w.ownsRow base 40 1 v n xs) (hn : 0 < n) (hm : 0 < m) (h1 : ∀ u ∈ xs, u.oneCell' = true)
    (hv : w.heap[vb]? = some (.cells (Array.replicate m (.int .u64 0)) 40 (0, 0))) (hne : v.ownBlock ≠ some vb) (hbase : base ≤ w.heap.size) (hbig : (n + m) * 8 ≤ 140737488355328) :
    Calls Yba.prog 21 #[v, .int .i64 0, .slice (some ⟨vb, 0, none⟩) m m] w fun e w' =>
      ∃ v', e = .returned v' ∧ w'.ownsRow base 40 1 v' (n + m) (List.replicate m (.int .u64 0) ++ xs) ∧ w.grownBy w' v.ownBlock ∧ (v'.ownBlock = v.ownBlock ∨ v'.ownBlock = some w.heap.size) := by
  rcases hown.2 with ⟨_, h0⟩ | ⟨g, cap, cur, rfl, hbg, hg, hnc, hcm, hcs, htake⟩
  · omega
  have hxl : xs.length = n := by rw [hown.1]; omega
  have hvbg : vb ≠ g := fun e => hne (by rw [e]; rfl)
  have hcm' : cap ≤ 9223372036854775807 := by unfold maxLen at hcm; omega
  have hcells : ∀ j u, xs[j]? = some u → w.cell? ⟨g, j, none⟩ = some u := fun j u hj => by
    have := hown.cells (g := g) rfl j u hj
    rwa [Addr.add_lit, Nat.zero_add] at this
  have hvcells : ∀ j u, (List.replicate m (Value.int .u64 0))[j]? = some u → w.cell? ⟨vb, j, none⟩ = some u := fun j u hj => by
    rw [cell_of_row w vb j _ 40 (0, 0) hv, ← hj]
    simp [Array.getElem?_replicate, List.getElem?_replicate]
  have h1v : ∀ u ∈ List.replicate m (Value.int .u64 0), u.oneCell' = true := fun u hu => by rw [List.eq_of_mem_replicate hu]; rfl
  by_cases hroom : n + m ≤ cap
  · have hcur : cur.size = cap := by omega
    have hfr : ∀ j, w.frozen? ⟨g, j, none⟩ = false := fun j => by simp [World.frozen?, hg]
    have hfv : ∀ j, w.frozen? ⟨vb, j, none⟩ = false := fun j => by simp [World.frozen?, hv]
    refine (insert_shift g n cap vb m m xs (List.replicate m (.int .u64 0)) w hn hm hroom hcm' hvbg hxl (by simp) hcells
      (fun j hj => by rw [cell_of_row w g j cur 40 (0, 0) hg, Array.getElem?_eq_getElem (by omega)]; rfl) (fun j _ => hfr j) hvcells h1 h1v 40 40 m cap
      (by simp [World.shape?, hv]) (by simp [World.shape?, hg, hcur]) (by omega) (hfv 0) (hfv m)).mono ?_
    rintro e w' ⟨rfl, rfl⟩
    have hg' : w.drew.heap[g]? = some (.cells cur 40 (0, 0)) := hg
    obtain ⟨c1, hc1, hl1⟩ := heap_setCells_self g 40 (0, 0) xs m w.drew cur hg' (by omega)
    have hl1s : c1.toList.length = cap := by rw [hl1]; simp; omega
    have hc1s : c1.size = cap := by simpa using hl1s
    obtain ⟨c2, hc2, hl2⟩ := heap_setCells_self g 40 (0, 0) (List.replicate m (.int .u64 0)) 0 _ c1 hc1 (by simp; omega)
    have hl2s : c2.toList.length = cap := by rw [hl2]; simp; omega
    have hc2s : c2.size = cap := by simpa using hl2s
    refine ⟨_, rfl, ⟨by simp; omega, .inr ⟨g, cap, c2, rfl, hbg, hc2, hroom, hcm, by omega, ?_⟩⟩, ?_, .inl rfl⟩
    · rw [hl2, hl1]
      simp only [List.take_zero, List.nil_append, List.length_replicate, Nat.zero_add]
      rw [List.append_assoc, List.drop_left' (by simp; omega)]
      rw [← List.append_assoc]
      rw [List.take_left' (by simp; omega)]
    · exact grownBy_trans (grownBy_trans (grownBy_drew w _) (grownBy_setCells _ _ _ _)) (grownBy_setCells _ _ _ _)
  · refine (insert_grow g n cap vb m m xs (List.replicate m (.int .u64 0)) w hn hm hnc (by omega) hbig hxl (by simp) hcells hvcells h1 h1v).mono ?_
    rintro e w' ⟨G, ROW, hG1, hG2, hR, rfl, rfl⟩
    have hg' : ((w.alloc (.cells ROW 40)).drew).heap[w.heap.size]? = some (.cells ROW 40 (0, 0)) := heap_alloc_new w _
    obtain ⟨c1, hc1, hl1⟩ := heap_setCells_self w.heap.size 40 (0, 0) (List.replicate m (.int .u64 0)) 0 _ ROW hg' (by simp; omega)
    have hl1s : c1.toList.length = G := by rw [hl1]; simp; omega
    have hc1s : c1.size = G := by simpa using hl1s
    have hc1' : (((w.alloc (.cells ROW 40)).drew.setCells w.heap.size 0 (List.replicate m (.int .u64 0))).drew).heap[w.heap.size]? = some (.cells c1 40 (0, 0)) := hc1
    obtain ⟨c2, hc2, hl2⟩ := heap_setCells_self w.heap.size 40 (0, 0) xs m _ c1 hc1' (by omega)
    have hl2s : c2.toList.length = G := by rw [hl2]; simp; omega
    have hc2s : c2.size = G := by simpa using hl2s
    refine ⟨_, rfl, ⟨by simp; omega, .inr ⟨w.heap.size, G, c2, rfl, hbase, hc2, hG1, hG2, by omega, ?_⟩⟩, ?_, .inr rfl⟩
    · rw [hl2, hl1]
      simp only [List.take_zero, List.nil_append, List.length_replicate, Nat.zero_add]
      rw [List.take_left' (by simp; omega), List.take_left' (by simp)]
    · refine ⟨?_, ?_, ?_, ?_, ?_⟩
      · rw [(os_setCells' _ _ _ _).1]; exact (os_setCells' _ _ _ _).1
      · rw [(os_setCells' _ _ _ _).2.1]; exact (os_setCells' _ _ _ _).2.1
      · rw [(os_setCells' _ _ _ _).2.2]; exact (os_setCells' _ _ _ _).2.2
      · rw [size_setCells']
        show w.heap.size ≤ ((w.alloc (.cells ROW 40)).drew.setCells w.heap.size 0 _).heap.size
        rw [size_setCells']; show w.heap.size ≤ (w.alloc (.cells ROW 40)).heap.size; simp
      · intro k hk _
        rw [heap_setCells_other _ _ _ _ _ (by omega)]
        show ((w.alloc (.cells ROW 40)).drew.setCells w.heap.size 0 _).heap[k]? = _
        rw [heap_setCells_other _ _ _ _ _ (by omega)]
        exact Below.heap_alloc w _ k hk

end Go.Proofs.Ybulkcuks
