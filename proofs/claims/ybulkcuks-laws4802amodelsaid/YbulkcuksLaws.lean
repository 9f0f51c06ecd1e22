/-
  LAWS OF NO PROGRAM: append(s, make([]T, k)...) on a slice that the call owns; the block behind 'setCells'.
-/
import Derived.WalkKit
import Derived.Laws.IdiomCopy
import Derived.Lib.AppendZeros
import Derived.Lib.AppendZerosOnto
namespace Go.Proofs.Ybulkcuks
open Go.RowKit

theorem heap_setCell_self (w : World) (b o : Nat) (v : Value) (cur : Array Value) (e : TypeId) (fr : Nat × Nat) (h : w.heap[b]? = some (.cells cur e fr)) :
    (w.setCell ⟨b, o, none⟩ v).heap[b]? = some (.cells (cur.setIfInBounds o v) e fr) := by
  simp [World.setCell, Array.getElem?_modify, h]

/-- The block behind a run of stores. -/
theorem heap_setCells_self (b : Nat) (e : TypeId) (fr : Nat × Nat) : ∀ (vs : List Value) (o : Nat) (w : World) (cur : Array Value), w.heap[b]? = some (.cells cur e fr) → o + vs.length ≤ cur.size →
    ∃ cur' : Array Value, (w.setCells b o vs).heap[b]? = some (.cells cur' e fr) ∧ cur'.toList = cur.toList.take o ++ vs ++ cur.toList.drop (o + vs.length)
  | [], o, w, cur, h, ho => ⟨cur, h, by simp⟩
  | v :: r, o, w, cur, h, ho => by
    simp only [List.length_cons] at ho
    obtain ⟨cur', h1, h2⟩ := heap_setCells_self b e fr r (o + 1) (w.setCell ⟨b, o, none⟩ v) _ (heap_setCell_self w b o v cur e fr h) (by simp; omega)
    refine ⟨cur', h1, ?_⟩
    rw [h2]
    have hlt : o < cur.toList.length := by simp; omega
    have hd : (cur.toList.set o v).drop (o + 1 + r.length) = cur.toList.drop (o + (v :: r).length) := by
      rw [List.drop_set_of_lt (by omega)]
      congr 1; simp; omega
    have ht : (cur.toList.set o v).take (o + 1) = cur.toList.take o ++ [v] := by
      rw [List.take_succ_eq_append_getElem (by simpa using hlt)]
      simp [List.take_set]
      rw [List.set_eq_of_length_le (by simp; omega)]
    simp only [Array.toList_setIfInBounds]
    rw [hd, ht]
    simp

theorem heap_setCells_other (b : Nat) : ∀ (vs : List Value) (o : Nat) (w : World) (k : Nat), k ≠ b → (w.setCells b o vs).heap[k]? = w.heap[k]?
  | [], _, _, _, _ => rfl
  | v :: r, o, w, k, h => by
    rw [World.setCells, heap_setCells_other b r (o + 1) _ k h, Below.heap_setCell _ _ _ _ h]

theorem size_setCells' (b : Nat) : ∀ (vs : List Value) (o : Nat) (w : World), (w.setCells b o vs).heap.size = w.heap.size
  | [], _, _ => rfl
  | v :: r, o, w => by rw [World.setCells, size_setCells' b r (o + 1)]; simp [World.setCell]

theorem os_setCells' (b : Nat) : ∀ (vs : List Value) (o : Nat) (w : World), (w.setCells b o vs).os = w.os ∧ (w.setCells b o vs).tape = w.tape ∧ (w.setCells b o vs).output = w.output
  | [], _, _ => ⟨rfl, rfl, rfl⟩
  | v :: r, o, w => by rw [World.setCells]; exact os_setCells' b r (o + 1) _

theorem grownBy_setCells (w : World) (b o : Nat) (vs : List Value) : w.grownBy (w.setCells b o vs) (some b) :=
  ⟨(os_setCells' b vs o w).1, (os_setCells' b vs o w).2.1, (os_setCells' b vs o w).2.2, Nat.le_of_eq (size_setCells' b vs o w).symm, fun k _ hk => heap_setCells_other b vs o w k (fun e => hk (by rw [e]))⟩

theorem grownBy_trans {a b c : World} {row : Option Nat} (h : a.grownBy b row) (k : b.grownBy c row) : a.grownBy c row :=
  ⟨k.os.trans h.os, k.tape.trans h.tape, k.output.trans h.output, Nat.le_trans h.size k.size, fun i hi hr => (k.block i (Nat.lt_of_lt_of_le hi h.size) hr).trans (h.block i hi hr)⟩

theorem grownBy_drew (w : World) (row : Option Nat) : w.grownBy w.drew row := ⟨rfl, rfl, rfl, Nat.le_refl _, fun _ _ _ => rfl⟩

theorem zeroCells_one (z : Value) (n : Nat) (h1 : z.cells = #[z]) : (Builtin.zeroCells z.cells n).toList = List.replicate n z := by
  have e : Builtin.zeroCells z.cells n = Array.replicate n z := by
    rw [h1]
    unfold Builtin.zeroCells
    apply Array.ext
    · simp
    · intro i hi1 hi2
      simp at hi1
      simp [Nat.mod_one]
  rw [e]; simp

/-- append(s, make([]T, k)...), T of one cell, s a slice of the call's own: k zero values more, in place or in a new row. -/
theorem run_append_zeros_own {P : Program} (w : World) (base : Nat) (t tn ty e : TypeId) (i : TypeInfo) (z : Value) (bytes : Nat) (kq kn : IntKind) (ht : P.underlying t = some (.slice e)) (htn : P.underlying tn = some (.int kn))
    (hi : P.info? e = some i) (hz : i.zero = some z) (hsize : i.size = 1) (hby : i.bytes = bytes) (hzs : z.cells = #[z]) (h1 : z.oneCell' = true)
    (v : Value) (n : Nat) (xs : List Value) (hown : w.ownsRow base e 1 v n xs) (k : Nat) (h0 : 0 < k)
    (h63 : n + k ≤ maxLen) (hbytes : (n + k) * bytes ≤ 140737488355328) (hbase : base ≤ w.heap.size) :
    ∃ v' w', (Builtin.append_ #[t, tn] ty #[v, .int kq k]).run P w = .ok v' w' ∧ w'.ownsRow base e 1 v' (n + k) (xs ++ List.replicate k z) ∧ w.grownBy w' v.ownBlock ∧
      (v'.ownBlock = v.ownBlock ∨ v'.ownBlock = some w.heap.size) := by
  subst hby
  have hsmall : n + k ≤ 9223372036854775807 := by simp only [maxLen] at h63; omega
  have hzs1 : z.cells.size = 1 := by rw [hzs]; rfl
  have hlen : (xs ++ List.replicate k z).length = (n + k) * 1 := by rw [List.length_append, hown.1, List.length_replicate]; omega
  have hk48 : k * i.bytes ≤ 281474976710656 := Nat.le_trans (Nat.mul_le_mul_right _ (by omega : k ≤ n + k)) (by omega)
  have grown : ∀ (old : Nat) (row : Option Nat),
      (w.drew.alloc (.cells (xs.toArray ++ Builtin.zeroCells z.cells k ++ Builtin.zeroCells z.cells (grownCap w (n + k) old e - (n + k))) e)).ownsRow base e 1
        (.slice (some ⟨w.heap.size, 0, none⟩) (n + k) (grownCap w (n + k) old e)) (n + k) (xs ++ List.replicate k z) ∧
      w.grownBy (w.drew.alloc (.cells (xs.toArray ++ Builtin.zeroCells z.cells k ++ Builtin.zeroCells z.cells (grownCap w (n + k) old e - (n + k))) e)) row := by
    intro old row
    have hge := grownCap_ge w (n + k) old e
    have hcm : grownCap w (n + k) old e ≤ maxLen := grownCap_le_maxLen w (n + k) old e h63
    refine ⟨⟨hlen, .inr ⟨w.heap.size, _, _, rfl, hbase, heap_alloc_new w.drew _, hge, hcm, ?_, ?_⟩⟩, ⟨rfl, rfl, rfl, by simp, fun j hj _ => Below.heap_alloc w.drew _ j hj⟩⟩
    · simp only [Array.size_append, List.size_toArray, size_zeroCells, hzs1, hown.1]
      omega
    · simp only [Array.toList_append, zeroCells_one z _ hzs]
      rw [← hlen]
      exact List.take_left
  have hx1 : n * 1 = xs.length := hown.1.symm
  rcases hown.2 with ⟨rfl, rfl⟩ | ⟨g, cap, cur, rfl, hbg, hg, hnc, hcm, hcs, htake⟩
  · have hx : xs = [] := List.eq_nil_of_length_eq_zero (by simpa using hown.1)
    subst hx
    have hr := Lib.run_append_nil_zeros (P := P) w t tn ty e i z kq kn ht htn hi hz k h0 (by omega) (by omega) hk48
    have hgr := grown 0 (Value.ownBlock (.slice none 0 0))
    simp only [Nat.zero_add, List.nil_append, Array.empty_append] at hgr ⊢
    exact ⟨_, _, hr, hgr.1, hgr.2, .inr rfl⟩
  · by_cases hroom : n + k ≤ cap
    · have hst := run_storeCells_at P g n e (List.replicate k z) 0 cur w hg (by simp only [Nat.add_zero, List.length_replicate]; omega) (fun u hu => by rw [List.eq_of_mem_replicate hu]; exact h1)
      simp only [Nat.add_zero] at hst
      have hw : IntKind.i64.wrap (k : Int) = k := by rw [IntKind.wrap_i64]; omega
      have hneg : ¬ ((k : Int) < 0) := by omega
      have h48i : ¬ (281474976710656 < (k : Int) * (i.bytes : Int)) := by
        rw [← Int.natCast_mul]
        omega
      have hk0 : k ≠ 0 := by omega
      have hzc := zeroCells_one z k hzs
      have hr : (Builtin.append_ #[t, tn] ty #[.slice (some ⟨g, 0, none⟩) n cap, .int kq k]).run P w =
          .ok (.slice (some ⟨g, 0, none⟩) (n + k) cap) (w.setRow g (cur.toList.take n ++ List.replicate k z ++ cur.toList.drop (n + k)).toArray) := by
        simp [Builtin.append_, run_underlying ht, run_underlying htn, sizeOf, typeInfo, zeroValue, hi, hz, asInt, asIntOf, hw, hneg, h48i, hsize, hk0, hroom, Addr.add_lit, hzc, hst]
      refine ⟨_, _, hr, ⟨hlen, .inr ⟨g, cap, _, rfl, hbg, setRow_heap w g cur _ e _ hg, hroom, hcm, ?_, ?_⟩⟩, ⟨rfl, rfl, rfl, by simp, fun j _ hj => setRow_other w g j _ (fun e => hj (by simp [Value.ownBlock, e]))⟩, .inl rfl⟩
      · simp only [List.size_toArray, List.length_append, List.length_take, List.length_drop, List.length_replicate, Array.length_toList]
        omega
      · simp only [Nat.mul_one] at htake hlen ⊢
        rw [htake, ← hlen]
        exact List.take_left
    · have hold : (Builtin.firstCells i.size n (.slice (some ⟨g, 0, none⟩) n cap)).run P w.drew = .ok xs.toArray w.drew := by
        rw [hsize]
        exact run_firstCells_some w.drew 1 n ⟨g, 0, none⟩ n cap xs hown.1 (fun j u hj => hown.cells (g := g) rfl j u hj)
      have hr := Lib.run_append_grow_zeros w t tn ty e i z kq kn ht htn hi hz (some ⟨g, 0, none⟩) n cap xs hold k h0 (by omega) (by omega) (by omega) hk48 (growslice_fits (by omega) hbytes)
      have hgr := grown cap (Value.ownBlock (.slice (some ⟨g, 0, none⟩) n cap))
      exact ⟨_, _, hr, hgr.1, hgr.2, .inr rfl⟩

end Go.Proofs.Ybulkcuks
