/-
  WHAT A CALL ON A STRUCT IN MEMORY LEAVES ALONE: 'Fr w w' b o k own': of block b only the cells o .. o+k-1 may have turned; of the other old blocks only those of 'own'. And a bitset in memory: 'BAt'.
-/
import Derived.Test.YbulkcuksRead
import Derived.Test.YbulkcuksLaws
namespace Go.Proofs.Ybulkcuks
open Go.RowKit

structure Fr (w w' : World) (b o k : Nat) (own : List Nat) : Prop where
  os : w'.os = w.os
  tape : w'.tape = w.tape
  output : w'.output = w.output
  size : w.heap.size ≤ w'.heap.size
  block : ∀ i, i < w.heap.size → i ≠ b → i ∉ own → w'.heap[i]? = w.heap[i]?
  cell : ∀ j, j < o ∨ o + k ≤ j → w'.cell? ⟨b, j, none⟩ = w.cell? ⟨b, j, none⟩
  frz : ∀ j, w'.frozen? ⟨b, j, none⟩ = w.frozen? ⟨b, j, none⟩

theorem Fr.refl (w : World) (b o k : Nat) (own : List Nat) : Fr w w b o k own := ⟨rfl, rfl, rfl, Nat.le_refl _, fun _ _ _ _ => rfl, fun _ _ => rfl, fun _ => rfl⟩

theorem Fr.mono {w w' : World} {b o k o2 k2 : Nat} {own own2 : List Nat} (h : Fr w w' b o k own) (h1 : o2 ≤ o) (h2 : o + k ≤ o2 + k2) (h3 : ∀ x ∈ own, x < w.heap.size → x ∈ own2) : Fr w w' b o2 k2 own2 :=
  ⟨h.os, h.tape, h.output, h.size, fun i hi hb ho => h.block i hi hb (fun hx => ho (h3 i hx hi)), fun j hj => h.cell j (by omega), h.frz⟩

theorem Fr.trans {w1 w2 w3 : World} {b o k : Nat} {own own2 : List Nat} (h : Fr w1 w2 b o k own) (g : Fr w2 w3 b o k own2) (hs : ∀ x ∈ own2, x ∈ own ∨ w1.heap.size ≤ x) : Fr w1 w3 b o k own :=
  ⟨g.os.trans h.os, g.tape.trans h.tape, g.output.trans h.output, Nat.le_trans h.size g.size,
   fun i hi hb ho => (g.block i (Nat.lt_of_lt_of_le hi h.size) hb (fun hx => by rcases hs i hx with h | h; exact ho h; omega)).trans (h.block i hi hb ho),
   fun j hj => (g.cell j hj).trans (h.cell j hj), fun j => (g.frz j).trans (h.frz j)⟩

theorem Fr.of_below {w w' : World} (h : Below w.heap.size w w') (b o k : Nat) (own : List Nat) (hb : b < w.heap.size) : Fr w w' b o k own :=
  ⟨h.os, h.tape, h.output, h.size, fun i hi _ _ => h.block i hi, fun _ _ => h.cell (p := ⟨b, _, none⟩) hb, fun _ => h.frozen (p := ⟨b, _, none⟩) hb⟩

theorem Fr.of_grown {w w' : World} {row : Option Nat} (h : w.grownBy w' row) (b o k : Nat) (hb : b < w.heap.size) (hne : row ≠ some b) : Fr w w' b o k row.toList :=
  have hbb : w'.heap[b]? = w.heap[b]? := h.block b hb (fun e => hne e.symm)
  ⟨h.os, h.tape, h.output, h.size, fun i hi _ ho => h.block i hi (fun e => ho (by rw [← e]; simp)), fun _ _ => World.cell?_of_block hbb, fun _ => World.frozen?_of_block hbb⟩

theorem Fr.setCell {w w' : World} {b o k : Nat} {own : List Nat} (h : Fr w w' b o k own) (j : Nat) (v : Value) (h1 : o ≤ j) (h2 : j < o + k) : Fr w (w'.setCell ⟨b, j, none⟩ v) b o k own :=
  ⟨h.os, h.tape, h.output, by simpa [World.setCell] using h.size, fun i hi hb ho => (Below.heap_setCell _ _ _ _ hb).trans (h.block i hi hb ho),
   fun i hi => (World.cell?_setCell_other _ _ _ _ (fun e => by have := congrArg Addr.off e; dsimp only at this; omega)).trans (h.cell i hi), fun i => by rw [World.frozen?_setCell]; exact h.frz i⟩

theorem Fr.drew {w w' : World} {b o k : Nat} {own : List Nat} (h : Fr w w' b o k own) : Fr w w'.drew b o k own :=
  ⟨h.os, h.tape, h.output, h.size, h.block, h.cell, h.frz⟩

theorem Fr.alloc {w w' : World} {b o k : Nat} {own : List Nat} (h : Fr w w' b o k own) (hb : b < w.heap.size) (ob : Obj) : Fr w (w'.alloc ob) b o k own :=
  h.trans (Fr.of_below ((Below.refl _ _).alloc (Nat.le_refl _) ob) b o k [] (Nat.lt_of_lt_of_le hb h.size)) (fun _ hx => by cases hx)

/-- A whole call's word on old memory, where the block and what is owned are the call's own. -/
theorem Fr.below {w w' : World} {b o k B : Nat} {own : List Nat} (h : Fr w w' b o k own) (hb : B ≤ b) (ho : ∀ x ∈ own, B ≤ x) (hB : B ≤ w.heap.size) : Below B w w' :=
  ⟨h.os, h.tape, h.output, h.size, fun i hi => h.block i (by omega) (by omega) (fun hx => by have := ho i hx; omega)⟩

theorem Fr.blockOf {w w' : World} {b o k : Nat} {own : List Nat} (h : Fr w w' b o k own) {x : Nat} (hx : x < w.heap.size) (hb : x ≠ b) (ho : x ∉ own) : w'.heap[x]? = w.heap[x]? := h.block x hx hb ho

/-- The bitset (f, ws) lies in block b from cell o on; v is its slice. -/
structure BAt (w : World) (b o base f : Nat) (ws : List Nat) (v : Value) : Prop where
  c0 : w.cell? ⟨b, o, none⟩ = some (.int .i64 f)
  c1 : w.cell? ⟨b, o + 1, none⟩ = some v
  z0 : w.frozen? ⟨b, o, none⟩ = false
  z1 : w.frozen? ⟨b, o + 1, none⟩ = false
  own : w.ownsRow base 40 1 v ws.length (encW ws)
  ne : v.ownBlock ≠ some b
  lt : ∀ x ∈ ws, x < 18446744073709551616
  bd : f + ws.length ≤ 64

theorem BAt.blt {w : World} {b o base f : Nat} {ws : List Nat} {v : Value} (h : BAt w b o base f ws v) : b < w.heap.size := World.block_lt_of_cell? w ⟨b, o, none⟩ h.c0

theorem BAt.olt {w : World} {b o base f : Nat} {ws : List Nat} {v : Value} (h : BAt w b o base f ws v) : ∀ x, v.ownBlock = some x → base ≤ x ∧ x < w.heap.size := h.own.lt

theorem ownsRow_of_block {w w' : World} {base : Nat} {e : TypeId} {size : Nat} {v : Value} {n : Nat} {xs : List Value} (h : w.ownsRow base e size v n xs) (hk : ∀ x, v.ownBlock = some x → w'.heap[x]? = w.heap[x]?) : w'.ownsRow base e size v n xs := by
  refine ⟨h.1, ?_⟩
  rcases h.2 with hn | ⟨g, cap, cur, rfl, hb, hgg, rest⟩
  · exact .inl hn
  · exact .inr ⟨g, cap, cur, rfl, hb, by rw [hk g rfl]; exact hgg, rest⟩

/-- A bitset stays while its two cells and its row stay. -/
theorem BAt.keep {w w' : World} {b o base f : Nat} {ws : List Nat} {v : Value} (h : BAt w b o base f ws v) (h0 : w'.cell? ⟨b, o, none⟩ = w.cell? ⟨b, o, none⟩) (h1 : w'.cell? ⟨b, o + 1, none⟩ = w.cell? ⟨b, o + 1, none⟩)
    (hz : ∀ j, w'.frozen? ⟨b, j, none⟩ = w.frozen? ⟨b, j, none⟩) (hk : ∀ x, v.ownBlock = some x → w'.heap[x]? = w.heap[x]?) : BAt w' b o base f ws v :=
  ⟨h0.trans h.c0, h1.trans h.c1, (hz _).trans h.z0, (hz _).trans h.z1, ownsRow_of_block h.own hk, h.ne, h.lt, h.bd⟩

theorem BAt.below {w w' : World} {b o base f : Nat} {ws : List Nat} {v : Value} (h : BAt w b o base f ws v) (hb : Below w.heap.size w w') : BAt w' b o base f ws v :=
  h.keep (hb.cell (p := ⟨b, _, none⟩) h.blt) (hb.cell (p := ⟨b, _, none⟩) h.blt) (fun _ => hb.frozen (p := ⟨b, _, none⟩) h.blt) (fun x hx => hb.block x (h.olt x hx).2)

theorem owns_form {w : World} {base : Nat} {e : TypeId} {size : Nat} {v : Value} {n : Nat} {xs : List Value} (h : w.ownsRow base e size v n xs) (hn : 0 < n) :
    ∃ g cap, v = .slice (some ⟨g, 0, none⟩) n cap ∧ n ≤ cap ∧ cap ≤ maxLen ∧ base ≤ g ∧ g < w.heap.size := by
  rcases h.2 with ⟨_, h0⟩ | ⟨g, cap, cur, rfl, hb, hg, hc, hm, _⟩
  · omega
  · exact ⟨g, cap, rfl, hc, hm, hb, (Array.getElem?_eq_some_iff.1 hg).1⟩

theorem encW_one (ws : List Nat) : ∀ u ∈ encW ws, u.oneCell' = true := by
  intro u hu
  simp only [encW, List.mem_map] at hu
  obtain ⟨x, _, rfl⟩ := hu
  rfl

theorem encW_append (a b : List Nat) : encW (a ++ b) = encW a ++ encW b := by simp [encW]
theorem encW_replicate (n : Nat) : encW (List.replicate n 0) = List.replicate n (.int .u64 0) := by simp [encW]
theorem encW_length (ws : List Nat) : (encW ws).length = ws.length := by simp [encW]

theorem ownsRow_setCell_ne {w : World} {base : Nat} {e : TypeId} {size : Nat} {v : Value} {n : Nat} {xs : List Value} (h : w.ownsRow base e size v n xs) {b : Nat} (hne : v.ownBlock ≠ some b) (j : Nat) (u : Value) : (w.setCell ⟨b, j, none⟩ u).ownsRow base e size v n xs :=
  ownsRow_of_block h (fun x hx => Below.heap_setCell _ _ _ _ (fun e => hne (by rw [hx, e])))

/-- Both cells stored: first, then the slice. -/
theorem bat_store2 {w : World} {b o base f' : Nat} {ws' : List Nat} {v' x0 x1 : Value} (hc0 : w.cell? ⟨b, o, none⟩ = some x0) (hc1 : w.cell? ⟨b, o + 1, none⟩ = some x1) (hz0 : w.frozen? ⟨b, o, none⟩ = false) (hz1 : w.frozen? ⟨b, o + 1, none⟩ = false)
    (own : w.ownsRow base 40 1 v' ws'.length (encW ws')) (ne : v'.ownBlock ≠ some b) (lt : ∀ x ∈ ws', x < 18446744073709551616) (bd : f' + ws'.length ≤ 64) :
    BAt ((w.setCell ⟨b, o, none⟩ (.int .i64 f')).setCell ⟨b, o + 1, none⟩ v') b o base f' ws' v' := by
  have hne : (⟨b, o + 1, none⟩ : Addr) ≠ ⟨b, o, none⟩ := fun e => by have := congrArg Addr.off e; dsimp only at this; omega
  have hne' : (⟨b, o, none⟩ : Addr) ≠ ⟨b, o + 1, none⟩ := fun e => hne e.symm
  refine ⟨?_, ?_, ?_, ?_, ?_, ne, lt, bd⟩
  · rw [World.cell?_setCell_other _ _ _ _ hne]; exact World.cell?_setCell_same _ _ _ hc0
  · exact World.cell?_setCell_same _ _ _ ((World.cell?_setCell_other _ _ _ _ hne').trans hc1)
  · rw [World.frozen?_setCell, World.frozen?_setCell]; exact hz0
  · rw [World.frozen?_setCell, World.frozen?_setCell]; exact hz1
  · exact ownsRow_setCell_ne (ownsRow_setCell_ne own ne _ _) ne _ _

/-- Both cells stored: the slice, then first. -/
theorem bat_store2' {w : World} {b o base f' : Nat} {ws' : List Nat} {v' x0 x1 : Value} (hc0 : w.cell? ⟨b, o, none⟩ = some x0) (hc1 : w.cell? ⟨b, o + 1, none⟩ = some x1) (hz0 : w.frozen? ⟨b, o, none⟩ = false) (hz1 : w.frozen? ⟨b, o + 1, none⟩ = false)
    (own : w.ownsRow base 40 1 v' ws'.length (encW ws')) (ne : v'.ownBlock ≠ some b) (lt : ∀ x ∈ ws', x < 18446744073709551616) (bd : f' + ws'.length ≤ 64) :
    BAt ((w.setCell ⟨b, o + 1, none⟩ v').setCell ⟨b, o, none⟩ (.int .i64 f')) b o base f' ws' v' := by
  have hne : (⟨b, o + 1, none⟩ : Addr) ≠ ⟨b, o, none⟩ := fun e => by have := congrArg Addr.off e; dsimp only at this; omega
  have hne' : (⟨b, o, none⟩ : Addr) ≠ ⟨b, o + 1, none⟩ := fun e => hne e.symm
  refine ⟨?_, ?_, ?_, ?_, ?_, ne, lt, bd⟩
  · exact World.cell?_setCell_same _ _ _ ((World.cell?_setCell_other _ _ _ _ hne).trans hc0)
  · rw [World.cell?_setCell_other _ _ _ _ hne']; exact World.cell?_setCell_same _ _ _ hc1
  · rw [World.frozen?_setCell, World.frozen?_setCell]; exact hz0
  · rw [World.frozen?_setCell, World.frozen?_setCell]; exact hz1
  · exact ownsRow_setCell_ne (ownsRow_setCell_ne own ne _ _) ne _ _

/-- The slice alone. -/
theorem bat_store1 {w : World} {b o base f' : Nat} {ws' : List Nat} {v' x1 : Value} (hc0 : w.cell? ⟨b, o, none⟩ = some (.int .i64 f')) (hc1 : w.cell? ⟨b, o + 1, none⟩ = some x1) (hz0 : w.frozen? ⟨b, o, none⟩ = false) (hz1 : w.frozen? ⟨b, o + 1, none⟩ = false)
    (own : w.ownsRow base 40 1 v' ws'.length (encW ws')) (ne : v'.ownBlock ≠ some b) (lt : ∀ x ∈ ws', x < 18446744073709551616) (bd : f' + ws'.length ≤ 64) :
    BAt (w.setCell ⟨b, o + 1, none⟩ v') b o base f' ws' v' := by
  have hne : (⟨b, o + 1, none⟩ : Addr) ≠ ⟨b, o, none⟩ := fun e => by have := congrArg Addr.off e; dsimp only at this; omega
  refine ⟨?_, ?_, ?_, ?_, ?_, ne, lt, bd⟩
  · rw [World.cell?_setCell_other _ _ _ _ hne]; exact hc0
  · exact World.cell?_setCell_same _ _ _ hc1
  · rw [World.frozen?_setCell]; exact hz0
  · rw [World.frozen?_setCell]; exact hz1
  · exact ownsRow_setCell_ne own ne _ _

end Go.Proofs.Ybulkcuks
