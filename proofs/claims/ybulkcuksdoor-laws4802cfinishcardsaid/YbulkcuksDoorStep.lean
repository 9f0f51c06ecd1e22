/-
  The world behind finishCheckpoint's first stores.
-/
import Derived.Test.YbulkcuksDoorAll
namespace Go.Proofs.YbulkcuksDoor
open Go.RowKit

/-- The world where the loop over the released pages begins, against the one where the call began. -/
structure Step1 (w W : World) (bp : Nat) (m0 m1 m2 m3 m4 m5 : Int) : Prop where
  os : W.os = w.os
  tape : W.tape = w.tape
  output : W.output = w.output
  size : W.heap.size = w.heap.size + 1
  block : ∀ x, x < w.heap.size → x ≠ bp → W.heap[x]? = w.heap[x]?
  cell : ∀ j, 8 ≤ j → j ≠ 23 → W.cell? ⟨bp, j, none⟩ = w.cell? ⟨bp, j, none⟩
  frz : ∀ j, W.frozen? ⟨bp, j, none⟩ = w.frozen? ⟨bp, j, none⟩
  c2 : W.cell? ⟨bp, 2, none⟩ = some (.int .u64 m0)
  c3 : W.cell? ⟨bp, 3, none⟩ = some (.int .u32 m1)
  c4 : W.cell? ⟨bp, 4, none⟩ = some (.int .u32 m2)
  c5 : W.cell? ⟨bp, 5, none⟩ = some (.int .u32 m3)
  c6 : W.cell? ⟨bp, 6, none⟩ = some (.int .u32 m4)
  c7 : W.cell? ⟨bp, 7, none⟩ = some (.int .i64 m5)
  c23 : W.cell? ⟨bp, 23, none⟩ = some (.pointer none)
  box : W.cell? ⟨w.heap.size, 0, none⟩ = some (.pointer (some ⟨bp, 0, none⟩))

theorem addr_ne {b b' o o' : Nat} (h : b ≠ b' ∨ o ≠ o') : (⟨b, o, none⟩ : Addr) ≠ ⟨b', o', none⟩ := fun e => by
  have e1 := congrArg Addr.block e; have e2 := congrArg Addr.off e; dsimp only at e1 e2; omega

theorem step1_mk (w : World) (bp bc : Nat) (m0 m1 m2 m3 m4 m5 : Int) (h23 : w.cell? ⟨bp, 23, none⟩ = some (.pointer (some ⟨bc, 0, none⟩))) (hm2 : ∀ j, j < 8 → (w.cell? ⟨bp, j, none⟩).isSome = true) :
    Step1 w ((((((((w.setCell ⟨bp, 23, none⟩ (.pointer none)).alloc (.cells #[.pointer (some ⟨bp, 0, none⟩)] 28)).setCell ⟨bp, 2, none⟩ (.int .u64 m0)).setCell ⟨bp, 3, none⟩ (.int .u32 m1)).setCell ⟨bp, 4, none⟩ (.int .u32 m2)).setCell ⟨bp, 5, none⟩ (.int .u32 m3)).setCell ⟨bp, 6, none⟩ (.int .u32 m4)).setCell ⟨bp, 7, none⟩ (.int .i64 m5)).drew bp m0 m1 m2 m3 m4 m5 := by
  have hb : bp < w.heap.size := World.block_lt_of_cell? w _ h23
  obtain ⟨A, hA⟩ : ∃ A, A = (w.setCell ⟨bp, 23, none⟩ (.pointer none)).alloc (.cells #[.pointer (some ⟨bp, 0, none⟩)] 28) := ⟨_, rfl⟩
  rw [← hA]
  have hs1 : (w.setCell ⟨bp, 23, none⟩ (.pointer none)).heap.size = w.heap.size := by simp [World.setCell]
  have hAs : A.heap.size = w.heap.size + 1 := by rw [hA]; simp [hs1]
  have hAb : ∀ x, x < w.heap.size → x ≠ bp → A.heap[x]? = w.heap[x]? := fun x hx hxb => by
    rw [hA, Below.heap_alloc _ _ _ (by rw [hs1]; exact hx), Below.heap_setCell _ _ _ _ hxb]
  have hAc : ∀ j, A.cell? ⟨bp, j, none⟩ = (w.setCell ⟨bp, 23, none⟩ (.pointer none)).cell? ⟨bp, j, none⟩ := fun j => by
    rw [hA]; exact World.cell?_alloc_past (w := w.setCell ⟨bp, 23, none⟩ (.pointer none)) _ bp j (by rw [hs1]; exact hb)
  have hAf : ∀ j, A.frozen? ⟨bp, j, none⟩ = w.frozen? ⟨bp, j, none⟩ := fun j => by
    have : A.frozen? ⟨bp, j, none⟩ = (w.setCell ⟨bp, 23, none⟩ (.pointer none)).frozen? ⟨bp, j, none⟩ := by
      rw [hA]; exact World.frozen?_of_block (Below.heap_alloc _ _ _ (by rw [hs1]; exact hb))
    rw [this, World.frozen?_setCell]
  have hAx : A.cell? ⟨w.heap.size, 0, none⟩ = some (.pointer (some ⟨bp, 0, none⟩)) := by
    rw [hA, World.cell?_alloc_at (w := w.setCell ⟨bp, 23, none⟩ (.pointer none)) _ _ w.heap.size 0 hs1.symm]; rfl
  have hA23 : A.cell? ⟨bp, 23, none⟩ = some (.pointer none) := by rw [hAc]; exact World.cell?_setCell_same _ _ _ h23
  have hAi : ∀ j, j < 8 → ∃ v, A.cell? ⟨bp, j, none⟩ = some v := fun j hj => by
    obtain ⟨v, hv⟩ := Option.isSome_iff_exists.1 (hm2 j hj)
    exact ⟨v, by rw [hAc, World.cell?_setCell_other _ _ _ _ (addr_ne (.inr (by omega)))]; exact hv⟩
  have hAo : A.os = w.os ∧ A.tape = w.tape ∧ A.output = w.output := by rw [hA]; exact ⟨rfl, rfl, rfl⟩
  obtain ⟨V, hV⟩ : ∃ V : List Value, V = [.int .u64 m0, .int .u32 m1, .int .u32 m2, .int .u32 m3, .int .u32 m4, .int .i64 m5] := ⟨_, rfl⟩
  have hVl : V.length = 6 := by rw [hV]; rfl
  have hchain : (((((A.setCell ⟨bp, 2, none⟩ (.int .u64 m0)).setCell ⟨bp, 3, none⟩ (.int .u32 m1)).setCell ⟨bp, 4, none⟩ (.int .u32 m2)).setCell ⟨bp, 5, none⟩ (.int .u32 m3)).setCell ⟨bp, 6, none⟩ (.int .u32 m4)).setCell ⟨bp, 7, none⟩ (.int .i64 m5) = A.setCells bp 2 V := by rw [hV]; rfl
  rw [hchain]
  have hin : ∀ j (hj : j < V.length), (A.setCells bp 2 V).cell? ⟨bp, 2 + j, none⟩ = some V[j] := World.cell?_setCells_in bp V 2 A (fun j hj => by
    obtain ⟨v, hv⟩ := hAi (2 + j) (by omega)
    rw [hv]; rfl)
  have hout : ∀ j, 8 ≤ j → (A.setCells bp 2 V).cell? ⟨bp, j, none⟩ = A.cell? ⟨bp, j, none⟩ := fun j hj => World.cell?_setCells_out bp V 2 A _ (fun _ _ => by right; show 2 + V.length ≤ j; omega)
  have hos := os_setCells' bp V 2 A
  have g : ∀ j (hj : j < V.length) v, V[j] = v → (A.setCells bp 2 V).drew.cell? ⟨bp, 2 + j, none⟩ = some v := fun j hj v e => by rw [← e]; exact hin j hj
  exact ⟨hos.1.trans hAo.1, hos.2.1.trans hAo.2.1, hos.2.2.trans hAo.2.2, (size_setCells' bp V 2 A).trans hAs, fun x hx hxb => (heap_setCells_other bp V 2 A x hxb).trans (hAb x hx hxb),
    fun j hj h3 => (hout j hj).trans ((hAc j).trans (World.cell?_setCell_other _ _ _ _ (addr_ne (.inr (by omega))))), fun j => (World.frozen?_setCells bp V 2 A _).trans (hAf j),
    g 0 (by omega) _ (by simp [hV]), g 1 (by omega) _ (by simp [hV]), g 2 (by omega) _ (by simp [hV]), g 3 (by omega) _ (by simp [hV]), g 4 (by omega) _ (by simp [hV]), g 5 (by omega) _ (by simp [hV]),
    (hout 23 (by omega)).trans hA23, (World.cell?_setCells_out bp V 2 A _ (fun e _ => absurd e (by show w.heap.size ≠ bp; omega))).trans hAx⟩

end Go.Proofs.YbulkcuksDoor
