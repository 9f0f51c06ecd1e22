/-
  bitset.clear of a page that is in it; pageSet.has, pageSet.len.
-/
import Derived.Test.YbulkcuksAdd
import Derived.Laws.BitsAllLaws
namespace Go.Proofs.Ybulkcuks
open Go.RowKit

theorem hid {p : Prop} (h : p) : Hid p := h

theorem mask_clear (x k : Nat) (hx : x < 18446744073709551616) (hk : k < 64) : bits .andNot .u64 (x : Int) (IntKind.u64.wrap (2 ^ k)) = ((x &&& (18446744073709551615 - 2 ^ k) : Nat) : Int) := by
  have h2 : 2 ^ k < 18446744073709551616 := Nat.lt_of_lt_of_le (Nat.pow_lt_pow_right (by decide) hk) (by decide)
  have e : IntKind.u64.wrap (2 ^ k) = ((2 ^ k : Nat) : Int) := by
    have e2 : ((2 : Int) ^ k) = ((2 ^ k : Nat) : Int) := by simp
    rw [e2, IntKind.wrap_u64]
    generalize 2 ^ k = q at h2
    omega
  rw [e]
  exact u64_andNot_nat x (2 ^ k) hx h2

theorem testBit_clear (x k j : Nat) (hk : k < 64) (hj : j < 64) : (x &&& (18446744073709551615 - 2 ^ k)).testBit j = (x.testBit j && !decide (j = k)) := by
  have h2 : 2 ^ k < 2 ^ 64 := Nat.pow_lt_pow_right (by decide) hk
  have e : 18446744073709551615 - 2 ^ k = 2 ^ 64 - (2 ^ k + 1) := by omega
  rw [Nat.testBit_and, e, Nat.testBit_two_pow_sub_succ h2]
  rw [Nat.testBit_two_pow]
  simp [hj, eq_comm]

/-- the words with page id taken out -/
def clrW (f : Nat) (ws : List Nat) (id : Nat) : List Nat := ws.set (id / 64 - f) (ws.getD (id / 64 - f) 0 &&& (18446744073709551615 - 2 ^ (id % 64)))

def minus (M : Nat → Bool) (id : Nat) : Nat → Bool := fun x => M x && !decide (x = id)

theorem memB_clrW (f : Nat) (ws : List Nat) (id x : Nat) (hf : f ≤ id / 64) (hl : id / 64 - f < ws.length) : memB f (clrW f ws id) x = (memB f ws x && !decide (x = id)) := by
  unfold memB wordAt clrW
  by_cases h : f ≤ x / 64
  · rw [if_pos h, if_pos h]
    by_cases e : x / 64 - f = id / 64 - f
    · have e64 : x / 64 = id / 64 := by omega
      rw [e]
      have : (ws.set (id / 64 - f) (ws.getD (id / 64 - f) 0 &&& (18446744073709551615 - 2 ^ (id % 64)))).getD (id / 64 - f) 0 = ws.getD (id / 64 - f) 0 &&& (18446744073709551615 - 2 ^ (id % 64)) := by
        rw [List.getD_eq_getElem?_getD, List.getElem?_set_self hl]; rfl
      rw [this, testBit_clear _ _ _ (Nat.mod_lt _ (by decide)) (Nat.mod_lt _ (by decide))]
      congr 2
      simp only [decide_eq_decide]
      omega
    · have : (ws.set (id / 64 - f) (ws.getD (id / 64 - f) 0 &&& (18446744073709551615 - 2 ^ (id % 64)))).getD (x / 64 - f) 0 = ws.getD (x / 64 - f) 0 := by
        rw [List.getD_eq_getElem?_getD, List.getElem?_set_ne (fun q => e q.symm), ← List.getD_eq_getElem?_getD]
      rw [this]
      have hne : decide (x = id) = false := decide_eq_false (fun q => e (by rw [q]))
      rw [hne]; simp
  · rw [if_neg h, if_neg h]
    simp

/-- The set of fresh pages: a bitset at (b, o) that holds just the pages of M; own: its row's block. -/
def FSet (w : World) (b o base : Nat) (own : List Nat) (M : Nat → Bool) : Prop :=
  ∃ (f : Nat) (ws : List Nat) (v : Value), BAt w b o base f ws v ∧ (∀ x, memB f ws x = M x) ∧ own = v.ownBlock.toList

theorem clear_end {b o base f id g cap : Nat} {ws : List Nat} {w : World} (h : BAt w b o base f ws (.slice (some ⟨g, 0, none⟩) ws.length cap)) (ob : Obj) :
    BAt ((w.setCell ⟨g, id / 64 - f, none⟩ (.int .u64 ((ws.getD (id / 64 - f) 0 &&& (18446744073709551615 - 2 ^ (id % 64)) : Nat) : Int))).alloc ob) b o base f (clrW f ws id) (.slice (some ⟨g, 0, none⟩) ws.length cap) ∧
      Fr w ((w.setCell ⟨g, id / 64 - f, none⟩ (.int .u64 ((ws.getD (id / 64 - f) 0 &&& (18446744073709551615 - 2 ^ (id % 64)) : Nat) : Int))).alloc ob) b o 0 (Value.slice (some ⟨g, 0, none⟩) ws.length cap).ownBlock.toList := by
  have hgb : g ≠ b := fun e => h.ne (by rw [← e]; rfl)
  have hbw := h.blt
  obtain ⟨W, hW⟩ : ∃ W, W = w.setCell ⟨g, id / 64 - f, none⟩ (.int .u64 ((ws.getD (id / 64 - f) 0 &&& (18446744073709551615 - 2 ^ (id % 64)) : Nat) : Int)) := ⟨_, rfl⟩
  rw [← hW]
  have hB : W.heap[b]? = w.heap[b]? := by rw [hW]; exact Below.heap_setCell _ _ _ _ (fun e => hgb e.symm)
  have hsz : W.heap.size = w.heap.size := by rw [hW]; simp [World.setCell]
  have hlen : (clrW f ws id).length = ws.length := by simp [clrW]
  have hx := getD_lt _ h.lt (id / 64 - f)
  have hW1 : BAt W b o base f (clrW f ws id) (.slice (some ⟨g, 0, none⟩) ws.length cap) := by
    refine ⟨(World.cell?_of_block hB).trans h.c0, (World.cell?_of_block hB).trans h.c1, (World.frozen?_of_block hB).trans h.z0, (World.frozen?_of_block hB).trans h.z1, ?_, h.ne, fun y hy => ?_, by rw [hlen]; exact h.bd⟩
    · have hs := ownsRow_set h.own (id / 64 - f) (.int .u64 ((ws.getD (id / 64 - f) 0 &&& (18446744073709551615 - 2 ^ (id % 64)) : Nat) : Int))
      rw [← hW, encW_set] at hs
      rw [hlen]
      exact hs
    · rcases List.mem_or_eq_of_mem_set hy with hy | rfl
      · exact h.lt y hy
      · exact Nat.lt_of_le_of_lt Nat.and_le_left hx
  refine ⟨hW1.below ((Below.refl _ _).alloc (Nat.le_refl _) _), ?_⟩
  refine Fr.alloc ⟨?_, ?_, ?_, ?_, ?_, ?_, ?_⟩ hbw ob
  · rw [hW]; rfl
  · rw [hW]; rfl
  · rw [hW]; rfl
  · rw [hsz]; exact Nat.le_refl _
  · intro i hi hib hio
    rw [hW]
    exact Below.heap_setCell _ _ _ _ (fun e => hio (by have e' : i = g := e; rw [e']; simp [Value.ownBlock]))
  · intro j _; exact World.cell?_of_block hB
  · intro j; exact World.frozen?_of_block hB

set_option maxRecDepth 100000 in
set_option maxHeartbeats 2000000 in
theorem clear_any (b o base f id : Nat) (ws : List Nat) (v : Value) (w : World) (h : BAt w b o base f ws v) (hi : id < 4096) (hmem : memB f ws id = true) :
    Calls Yba.prog 26 #[.agg #[.int .i64 f, v], .int .u32 id] w fun e w' => e = .returned (.tuple #[]) ∧ BAt w' b o base f (clrW f ws id) v ∧ (∀ x, memB f (clrW f ws id) x = (memB f ws x && !decide (x = id))) ∧ Fr w w' b o 0 v.ownBlock.toList := by
  have hb1 : f ≤ id / 64 := by
    rcases Nat.lt_or_ge (id / 64) f with hh | hh
    · unfold memB wordAt at hmem; rw [if_neg (by omega)] at hmem; simp at hmem
    · exact hh
  have hb2 : id / 64 - f < ws.length := by
    rcases Nat.lt_or_ge (id / 64 - f) ws.length with hh | hh
    · exact hh
    · unfold memB wordAt at hmem; rw [if_pos hb1, List.getD_eq_getElem?_getD, List.getElem?_eq_none hh] at hmem; simp at hmem
  have HM : Hid _ := fun x => memB_clrW f ws id x hb1 hb2
  have HB : Hid _ := h
  have hx := getD_lt _ h.lt (id / 64 - f)
  have HX : Hid _ := mask_clear _ (id % 64) hx (Nat.mod_lt _ (by decide))
  obtain ⟨g, cap, rfl, hg, _, hc, hm, hcell⟩ := owns_at h.own hb2
  have hgf : w.frozen? ⟨g, id / 64 - f, none⟩ = false := by
    rcases h.own.2 with ⟨h0, _⟩ | ⟨g', cap', cur, hv, hb, hgg, _⟩
    · cases h0
    · cases hv; simp [World.frozen?, hgg]
  have hgd : ws[id / 64 - f] = ws.getD (id / 64 - f) 0 := by rw [List.getD_eq_getElem?_getD, List.getElem?_eq_getElem hb2]; rfl
  have HX2 : Hid (bits .andNot .u64 (ws[id / 64 - f] : Nat) (IntKind.u64.wrap (2 ^ (id % 64))) = ((ws.getD (id / 64 - f) 0 &&& (18446744073709551615 - 2 ^ (id % 64)) : Nat) : Int)) := by rw [hgd]; exact HX.out
  rw [hgd] at hcell
  clear hgd
  have hgw : g < w.heap.size := (h.olt g rfl).2
  have hi1 : (0 : Int) ≤ (id : Int) / 64 - f := by omega
  have hi2 : (id : Int) / 64 - f < ws.length := by omega
  have hbd := h.bd
  have e64 : ((id : Int) / 64 - f).toNat = id / 64 - f := by omega
  clear h hmem hx
  go_enter Yba.func26, Yba.ntmps26
  go_wp2_with (fail)
  go_end0
  rw [HX2.out]
  obtain ⟨hB, hF⟩ := clear_end HB.out (.cells #[.int .i64 f, .slice (some ⟨g, 0, none⟩) ws.length cap] 73)
  exact ⟨rfl, hB, HM.out, hF⟩

end Go.Proofs.Ybulkcuks
