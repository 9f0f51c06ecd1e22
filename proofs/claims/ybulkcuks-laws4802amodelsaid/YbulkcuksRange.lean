/-
  A loop over an iterator that itself writes memory: its record ('Rec'), one round, the loop. (The iterator's own steps are met in its own walk, at this loop's invariant: so no word on what it may write is asked.)
-/
import Derived.RangeFuncNested
import Derived.RangeFuncCalls
import Derived.RangeFuncLeaves
namespace Go.Proofs.Ybulkcuks
open Go.RowKit

/-- the loop's record is ready, its block of deferred calls is empty -/
def Rec (D : Nat) (r : Loop) (W : World) : Prop := W.heap[D + 1]? = some (.loop r) ∧ W.heap[D]? = some (.deferred (some []))

theorem Rec.keep {D : Nat} {r : Loop} {W W' : World} (h : Rec D r W) (h1 : W'.heap[D + 1]? = W.heap[D + 1]?) (h2 : W'.heap[D]? = W.heap[D]?) : Rec D r W' := ⟨h1.trans h.1, h2.trans h.2⟩

theorem range_writes {F : Fence} {n : Nat} {P : Program} {g : Operand} {ps : Array Tmp} {assign body : Code} {Q : Exit → Act → World → Prop} {a : Act} {w : World}
    (hro : F.round = none) (h1 : 1 ≤ n) {gf : Nat} {lb : Array Value} (hg : a.eval g = .func (.func gf) #[] lb) (hFg : F.fn gf) (eg : ∀ args w, (callFunc gf args).run P w = .ok (.enter gf args) w)
    (enc : Nat → Value) (hps : ps.size = 1) (I : List Nat → World → Prop) (Im : List Nat → Nat → World → Prop) (S : List Nat → Prop)
    (hI0 : ∀ o1 o2, I [] ((w.alloc o1).alloc o2))
    (hIp : ∀ pre W o r, I pre W → W.heap[w.heap.size + 1]? = some (.loop r) → I pre (W.putObj (w.heap.size + 1) o))
    (hMp : ∀ pre x W o r, Im pre x W → W.heap[w.heap.size + 1]? = some (.loop r) → Im pre x (W.putObj (w.heap.size + 1) o))
    (a₁ : Nat → Act)
    (hassign : ∀ (l : Nat) (x : Nat) (W : World) (K : Act → World → Prop), K (a₁ x) W →
      assign.wpIn (F.inRound l) (n - 1 - 1) P (Exit.then K (fun _ _ _ => False)) { tmps := (ps.zip #[enc x]).foldl (fun t (p, v) => t.setIfInBounds p v) a.tmps, defers := [] } W)
    (hbody : ∀ (l : Nat) (pre : List Nat) (x : Nat) (W : World) (r : Loop), Im pre x W → Rec w.heap.size r W →
      body.wpIn (F.inRound l) (n - 1 - 1) P (fun e _ W' => e = .normal ∧ W'.heap[w.heap.size + 1]? = W.heap[w.heap.size + 1]? ∧ W'.heap[w.heap.size]? = W.heap[w.heap.size]? ∧ I (pre ++ [x]) W') (a₁ x) W)
    (hiter : ∀ (r : Loop) (W1 : World), (∀ pre x W, Im pre x W → Rec w.heap.size r W → YieldAt F (n - 1 - 1) P (w.heap.size + 1) #[enc x] W fun e W' => e = .returned (.bool true) ∧ I (pre ++ [x]) W' ∧ Rec w.heap.size r W') →
      I [] W1 → Rec w.heap.size r W1 → CallsIn F (n - 1) P gf (#[.func (.yield (w.heap.size + 1)) #[] #[]] ++ lb) W1 fun e W' => (∃ v, e = .returned v) ∧ ∃ xs, S xs ∧ I xs W' ∧ Rec w.heap.size r W')
    (hdone : ∀ (xs : List Nat) (W : World), S xs → I xs W → W.heap[w.heap.size]? = some (.deferred (some [])) → Q .normal { a with defers := { target := .collected w.heap.size, args := #[] } :: a.defers } W) :
    (Code.rangeFunc g ps assign body).wpIn F n P Q a w := by
  refine wpIn_rangeFunc ?_
  intro fn hfn
  rw [hro]
  obtain ⟨r, hr⟩ : ∃ r : Loop, r = { state := .ready, pending := none, fn, tmps := a.tmps, params := ps, assign, body, defers := w.heap.size } := ⟨_, rfl⟩
  obtain ⟨W1, hW1⟩ : ∃ W1, W1 = (w.alloc (.deferred (some []))).alloc (.loop r) := ⟨_, rfl⟩
  have hR1 : Rec w.heap.size r W1 := by
    rw [hW1]
    refine ⟨?_, (Below.heap_alloc _ _ _ (by simp)).trans (World.alloc_heap_new w _)⟩
    have := World.alloc_heap_new (w.alloc (.deferred (some []))) (.loop r)
    rwa [World.size_alloc] at this
  refine ⟨w.heap.size + 1, [{ target := .collected w.heap.size, args := #[] }], W1, { target := .fn (.func gf) lb, args := #[.func (.yield (w.heap.size + 1)) #[] #[]] }, W1, gf,
    #[.func (.yield (w.heap.size + 1)) #[] #[]] ++ lb, W1, ?_, ?_, ?_, ?_, fun _ => h1, ?_⟩
  · rw [hW1, hr]; exact run_enterLoop_outer _ _ _ _ _
  · simp only [resolve, hg]
    simp [go_sem]
  · intro f' hf'; simp [Target.leads] at hf'; subst hf'; exact hFg
  · simp [invoke, go_sem, eg]
  · refine (hiter r W1 ?_ (by rw [hW1]; exact hI0 _ _) hR1).mono ?_
    · rintro pre x W hM hR
      have hlt : w.heap.size + 1 < W.heap.size := (Array.getElem?_eq_some_iff.1 hR.1).1
      have hy := run_yield (P := P) (args := #[enc x]) hR.1 (by rw [hr]; exact hps.symm)
      rw [hr] at hy
      refine ⟨fn, _, assign, body, hy, roundIn_of_wpIn hfn (hassign _ x W _ ⟨_, run_beginRound hR.1 (by rw [hr]), ?_⟩)⟩
      refine wpIn_mono (hbody _ pre x _ _ (hMp pre x W _ _ hM hR.1) ⟨World.putObj_heap_same hlt, (World.putObj_heap_other (by omega)).trans hR.2⟩) ?_
      rintro e a3 W3 ⟨rfl, e1, e2, hI3⟩
      have hl3 : W3.heap[w.heap.size + 1]? = some (.loop { r with state := .busy }) := e1.trans (World.putObj_heap_same hlt)
      have hk3 : W3.heap[w.heap.size]? = some (.deferred (some [])) := e2.trans ((World.putObj_heap_other (by omega)).trans hR.2)
      have hlt3 : w.heap.size + 1 < W3.heap.size := (Array.getElem?_eq_some_iff.1 hl3).1
      have hend := run_endRound (P := P) none hl3
      refine ⟨_, _, hend, rfl, hIp _ _ _ _ hI3 hl3, ?_, (World.putObj_heap_other (by omega)).trans hk3⟩
      rw [World.putObj_heap_same hlt3, hr]
      rfl
    · rintro e W2 ⟨⟨v, rfl⟩, xs, hS, hI2, hR2⟩
      have hend := run_endLoop (P := P) hR2.1 (by rw [hr]; simp)
      have hp : r.pending = none := by rw [hr]
      rw [hp] at hend
      exact ⟨none, _, hend, hdone xs _ hS (hIp _ _ _ _ hI2 hR2.1) ((World.putObj_heap_other (by omega)).trans hR2.2)⟩

end Go.Proofs.Ybulkcuks
