/-
  bitset.set(id).
-/
import Derived.Test.YbulkcuksCover
import Derived.BigRegion
namespace Go.Proofs.Ybulkcuks
open Go.RowKit

/-- A store into one's own row. -/
theorem ownsRow_set {w : World} {base : Nat} {e : TypeId} {g cap n : Nat} {xs : List Value} (h : w.ownsRow base e 1 (.slice (some ⟨g, 0, none⟩) n cap) n xs) (j : Nat) (u : Value) : (w.setCell ⟨g, j, none⟩ u).ownsRow base e 1 (.slice (some ⟨g, 0, none⟩) n cap) n (xs.set j u) := by
  refine ⟨by simpa using h.1, ?_⟩
  rcases h.2 with ⟨h0, _⟩ | ⟨g', cap', cur, hv, hb, hg, hc, hm, hs, ht⟩
  · cases h0
  · cases hv
    refine .inr ⟨g, cap, _, rfl, hb, heap_setCell_self w g j u cur e (0, 0) hg, hc, hm, by simpa using hs, ?_⟩
    rw [Array.toList_setIfInBounds, ← ht, List.take_set]

theorem encW_set (ws : List Nat) (j x : Nat) : (encW ws).set j (.int .u64 (x : Int)) = encW (ws.set j x) := by simp [encW, List.map_set]

theorem set_end {b o base f id g cap : Nat} {ws : List Nat} {w w1 : World} {own : List Nat} (h1 : BAt w1 b o base (covF f ws (id / 64)) (covW f ws (id / 64)) (.slice (some ⟨g, 0, none⟩) (covW f ws (id / 64)).length cap)) (hlt : ∀ x ∈ ws, x < 18446744073709551616)
    (hfr : Fr w w1 b o 2 own) (hg : g ∈ own ∨ w.heap.size ≤ g) :
    BAt (w1.setCell ⟨g, id / 64 - covF f ws (id / 64), none⟩ (.int .u64 (((covW f ws (id / 64)).getD (id / 64 - covF f ws (id / 64)) 0 ||| 2 ^ (id % 64) : Nat) : Int))).drew b o base (covF f ws (id / 64)) (setW f ws id) (.slice (some ⟨g, 0, none⟩) (covW f ws (id / 64)).length cap) ∧
      Fr w (w1.setCell ⟨g, id / 64 - covF f ws (id / 64), none⟩ (.int .u64 (((covW f ws (id / 64)).getD (id / 64 - covF f ws (id / 64)) 0 ||| 2 ^ (id % 64) : Nat) : Int))).drew b o 2 own := by
  have hgb : g ≠ b := fun e => h1.ne (by rw [← e]; rfl)
  obtain ⟨W, hW⟩ : ∃ W, W = w1.setCell ⟨g, id / 64 - covF f ws (id / 64), none⟩ (.int .u64 (((covW f ws (id / 64)).getD (id / 64 - covF f ws (id / 64)) 0 ||| 2 ^ (id % 64) : Nat) : Int)) := ⟨_, rfl⟩
  rw [← hW]
  have hB : W.heap[b]? = w1.heap[b]? := by rw [hW]; exact Below.heap_setCell _ _ _ _ (fun e => hgb e.symm)
  constructor
  · refine ⟨(World.cell?_of_block hB).trans h1.c0, (World.cell?_of_block hB).trans h1.c1, (World.frozen?_of_block hB).trans h1.z0, (World.frozen?_of_block hB).trans h1.z1, ?_, h1.ne, setW_lt f id ws hlt, by rw [setW_length]; exact h1.bd⟩
    have hs := ownsRow_set h1.own (id / 64 - covF f ws (id / 64)) (.int .u64 (((covW f ws (id / 64)).getD (id / 64 - covF f ws (id / 64)) 0 ||| 2 ^ (id % 64) : Nat) : Int))
    rw [← hW, encW_set] at hs
    rw [setW_length]
    exact ownsRow_heap hs rfl
  · refine Fr.drew ⟨?_, ?_, ?_, ?_, ?_, ?_, ?_⟩
    · rw [hW]; exact hfr.os
    · rw [hW]; exact hfr.tape
    · rw [hW]; exact hfr.output
    · rw [hW]; simpa [World.setCell] using hfr.size
    · intro i hi hib hio
      rw [hW, Below.heap_setCell _ _ _ _ (fun e => ?_)]
      · exact hfr.block i hi hib hio
      · have e' : i = g := e
        rcases hg with hg | hg
        · exact hio (by rw [e']; exact hg)
        · omega
    · intro j hj; exact (World.cell?_of_block hB).trans (hfr.cell j hj)
    · intro j; exact (World.frozen?_of_block hB).trans (hfr.frz j)

set_option maxRecDepth 100000 in
set_option maxHeartbeats 2000000 in
theorem set_any (b o base f id : Nat) (ws : List Nat) (v : Value) (w : World) (h : BAt w b o base f ws v) (hbase : base ≤ w.heap.size) (hi : id < 4096) :
    Calls Yba.prog 5 #[.pointer (some ⟨b, o, none⟩), .int .u32 id] w fun e w' => e = .returned (.tuple #[]) ∧
      ∃ v', BAt w' b o base (covF f ws (id / 64)) (setW f ws id) v' ∧ (∀ k, v'.ownBlock = some k → v.ownBlock = some k ∨ w.heap.size ≤ k) ∧ Fr w w' b o 2 v.ownBlock.toList := by
  have hlt := h.lt
  have HL : Hid _ := hlt
  clear hlt
  go_enter Yba.func5, Yba.ntmps5
  go_wp2_with fail
  rw [show ((id : Int) / 64) = ((id / 64 : Nat) : Int) by omega]
  refine (cover_any b o base f (id / 64) ws v w h hbase (by omega)).mono ?_
  rintro e w1 ⟨rfl, v', h1, hblk, hfr⟩
  have hin := cov_in f (id / 64) ws
  have hlc := h1.lt
  have hx := getD_lt _ hlc (id / 64 - covF f ws (id / 64))
  have hj : id / 64 - covF f ws (id / 64) < (covW f ws (id / 64)).length := by omega
  obtain ⟨g, cap, rfl, hg, _, hc, hm, hcell⟩ := owns_at h1.own hj
  have hgf : w1.frozen? ⟨g, id / 64 - covF f ws (id / 64), none⟩ = false := by
    rcases h1.own.2 with ⟨h0, _⟩ | ⟨g', cap', cur, hv, hb, hgg, _⟩
    · cases h0
    · cases hv; simp [World.frozen?, hgg]
  rw [show (covW f ws (id / 64))[id / 64 - covF f ws (id / 64)] = (covW f ws (id / 64)).getD (id / 64 - covF f ws (id / 64)) 0 by rw [List.getD_eq_getElem?_getD, List.getElem?_eq_getElem hj]; rfl] at hcell
  have hgb : g ≠ b := fun e => h1.ne (by rw [← e]; rfl)
  have HO : Hid _ := mask_or _ (id % 64) hx (Nat.mod_lt _ (by decide))
  have HE : Hid _ := fun hg' => set_end (own := v.ownBlock.toList) h1 HL.out hfr hg'
  have HG : Hid (g ∈ v.ownBlock.toList ∨ w.heap.size ≤ g) := by
    rcases hblk g rfl with e | e
    · left; rw [e]; simp
    · exact .inr e
  have HB : Hid _ := hblk
  have hc0 := h1.c0
  have hc1 := h1.c1
  generalize (covW f ws (id / 64)).getD (id / 64 - covF f ws (id / 64)) 0 = x at *
  generalize (covW f ws (id / 64)).length = n at *
  generalize hf' : covF f ws (id / 64) = f' at *
  have HF : Hid _ := hf'
  have hi1 : (0 : Int) ≤ (id : Int) / 64 - f' := by omega
  have hi2 : (id : Int) / 64 - f' < n := by omega
  clear h h1 hblk hfr hx hlc hf'
  go_wp2_with fail
  go_region
  go_end0
  rw [HO.out]
  have h2 := HE.out HG.out
  refine ⟨rfl, _, ?_, HB.out, h2.2⟩
  rw [HF.out]
  exact h2.1
end Go.Proofs.Ybulkcuks
