/-
  THE WALKS OF WHAT ONLY READS: bitset.end, word, has, zzs4802cbit, bits.TrailingZeros64.
-/
import Derived.Test.YbulkcuksDoorProg
import Derived.Test.YbulkcuksDoorPlain
import Derived.WalkKit
import Derived.WalkSpells
import Derived.WalkLawsBesides
import Derived.Lib.TrailingZeros
namespace Go.Proofs.YbulkcuksDoor
open Go.RowKit

def encW (ws : List Nat) : List Value := ws.map fun (x : Nat) => Value.int .u64 (x : Int)

theorem owns_at {w : World} {base : Nat} {v : Value} {ws : List Nat} (h : w.ownsRow base 22 1 v ws.length (encW ws)) {k : Nat} (hk : k < ws.length) :
    ∃ g cap, v = .slice (some ⟨g, 0, none⟩) ws.length cap ∧ g < w.heap.size ∧ base ≤ g ∧ ws.length ≤ cap ∧ cap ≤ maxLen ∧ w.cell? ⟨g, k, none⟩ = some (.int .u64 (ws[k] : Nat)) := by
  rcases h.2 with ⟨_, h0⟩ | ⟨g, cap, cur, rfl, hb, hg, hc, hm, hsz, htake⟩
  · omega
  · refine ⟨g, cap, rfl, (Array.getElem?_eq_some_iff.1 hg).1, hb, hc, hm, ?_⟩
    rw [cell_of_row w g k cur 22 (0, 0) hg]
    have h1 : (encW ws)[k]? = some (.int .u64 (ws[k] : Nat)) := by simp [encW, hk]
    rw [← htake, List.getElem?_take, if_pos (by omega)] at h1
    simpa using h1

theorem owns_slice {w : World} {base : Nat} {v : Value} {ws : List Nat} (h : w.ownsRow base 22 1 v ws.length (encW ws)) :
    ∃ a cap, v = .slice a ws.length cap ∧ ws.length ≤ cap ∧ cap ≤ maxLen := by
  rcases h.2 with ⟨rfl, h0⟩ | ⟨g, cap, cur, rfl, _, _, h1, h2, _⟩
  · exact ⟨none, 0, by rw [h0], by omega, by unfold maxLen; omega⟩
  · exact ⟨_, _, rfl, h1, h2⟩

set_option maxHeartbeats 400000 in
theorem end_any (f n : Nat) (a : Option Addr) (c : Nat) (w : World) (hf : f + n ≤ 1000000) :
    Calls Ybad.prog 20 #[.agg #[.int .i64 f, .slice a n c]] w fun e w' => e = .returned (.int .i64 ((f : Int) + n)) ∧ Below w.heap.size w w' := by
  go_enter Ybad.func20, Ybad.ntmps20
  go_wp2
  go_ret
  exact ⟨rfl, (Below.refl _ _).alloc (Nat.le_refl _) _⟩

set_option maxHeartbeats 400000 in
theorem word_any (f i base : Nat) (v : Value) (ws : List Nat) (w : World) (hw : w.ownsRow base 22 1 v ws.length (encW ws)) (hf : f + ws.length ≤ 1000000) (hi : i ≤ 1000000) :
    Calls Ybad.prog 16 #[.agg #[.int .i64 f, v], .int .i64 i] w fun e w' => e = .returned (.int .u64 (wordAt f ws i)) ∧ Below w.heap.size w w' := by
  by_cases h1 : f ≤ i
  · by_cases h2 : i - f < ws.length
    · obtain ⟨g, cap, rfl, hg, _, hc, hm, hcell⟩ := owns_at hw h2
      have hx : wordAt f ws i = ws[i - f] := by simp [wordAt, h1, h2]
      generalize ws[i - f] = x at hcell hx
      rw [hx]
      clear hx hw
      go_enter Ybad.func16, Ybad.ntmps16
      go_wp2
      go_ret
      exact ⟨rfl, (Below.refl _ _).alloc (Nat.le_refl _) _⟩
    · obtain ⟨a, cap, rfl, _, _⟩ := owns_slice hw
      have hx : wordAt f ws i = 0 := by simp [wordAt, h1]; rw [List.getElem?_eq_none (by omega)]; rfl
      rw [hx]
      clear hx hw
      go_enter Ybad.func16, Ybad.ntmps16
      go_wp2
      go_ret
      exact ⟨rfl, (Below.refl _ _).alloc (Nat.le_refl _) _⟩
  · obtain ⟨a, cap, rfl, _, _⟩ := owns_slice hw
    have hx : wordAt f ws i = 0 := by simp [wordAt, h1]
    rw [hx]
    clear hx hw
    go_enter Ybad.func16, Ybad.ntmps16
    go_wp2
    go_ret
    exact ⟨rfl, (Below.refl _ _).alloc (Nat.le_refl _) _⟩

theorem ret_bool {a b : Bool} (h : a = b) : Ending.returned (.bool a) = .returned (.bool b) := by rw [h]

set_option maxHeartbeats 400000 in
theorem has_any (f id base : Nat) (v : Value) (ws : List Nat) (w : World) (hw : w.ownsRow base 22 1 v ws.length (encW ws)) (hlt : ∀ x ∈ ws, x < 18446744073709551616) (hf : f + ws.length ≤ 1000000) (hi : id < 4096) :
    Calls Ybad.prog 11 #[.agg #[.int .i64 f, v], .int .u32 id] w fun e w' => e = .returned (.bool (memB f ws id)) ∧ Below w.heap.size w w' := by
  have hw1 := hw.alloc (Obj.cells #[Value.int IntKind.i64 ↑f, v] 38)
  obtain ⟨a, cap, rfl, _, _⟩ := owns_slice hw
  have hm := mask_test (wordAt f ws (id / 64)) (id % 64) (wordAt_lt f ws _ hlt) (Nat.mod_lt _ (by decide))
  have HM : Hid _ := hm
  clear hm hlt
  go_enter Ybad.func11, Ybad.ntmps11
  go_wp2_with fail
  rw [show ((id : Int) / 64) = ((id / 64 : Nat) : Int) by omega]
  refine (word_any f (id / 64) base _ ws _ hw1 hf (by omega)).mono ?_
  rintro e w' ⟨rfl, hb⟩
  go_wp2
  go_ret
  exact ⟨ret_bool HM.out, ((Below.refl _ _).alloc (Nat.le_refl _) _).trans (hb.mono (by simp))⟩

set_option maxHeartbeats 400000 in
theorem bit_any (f id base : Nat) (v : Value) (ws : List Nat) (w : World) (hw : w.ownsRow base 22 1 v ws.length (encW ws)) (hlt : ∀ x ∈ ws, x < 18446744073709551616) (hf : f + ws.length ≤ 1000000) (hi : id < 4096) :
    Calls Ybad.prog 15 #[.agg #[.int .i64 f, v], .int .i64 id] w fun e w' => e = .returned (.bool (memB f ws id)) ∧ Below w.heap.size w w' := by
  by_cases h1 : f ≤ id / 64
  · by_cases h2 : id / 64 - f < ws.length
    · obtain ⟨g, cap, rfl, hg, _, hc, hm, hcell⟩ := owns_at hw h2
      have hx : wordAt f ws (id / 64) = ws[id / 64 - f] := by simp [wordAt, h1, h2]
      have hx2 : ws[id / 64 - f] < 18446744073709551616 := hlt _ (List.getElem_mem _)
      generalize ws[id / 64 - f] = x at hcell hx hx2
      have h1' : (f : Int) ≤ (id : Int) / 64 := by omega
      have h2' : (id : Int) / 64 - f < ws.length := by omega
      have HS : Hid _ := shift_test x (id % 64) hx2
      unfold memB
      rw [hx]
      clear hx hw hlt h1 h2
      go_enter Ybad.func15, Ybad.ntmps15
      go_wp2
      go_ret
      exact ⟨ret_bool HS.out, (Below.refl _ _).alloc (Nat.le_refl _) _⟩
    · obtain ⟨a, cap, rfl, _, _⟩ := owns_slice hw
      have hx : memB f ws id = false := by
        have : wordAt f ws (id / 64) = 0 := by simp [wordAt, h1]; rw [List.getElem?_eq_none (by omega)]; rfl
        simp [memB, this]
      have h1' : (f : Int) ≤ (id : Int) / 64 := by omega
      have h2' : (ws.length : Int) ≤ (id : Int) / 64 - f := by omega
      rw [hx]
      clear hx hw hlt h1 h2
      go_enter Ybad.func15, Ybad.ntmps15
      go_wp2
      go_ret
      exact ⟨rfl, (Below.refl _ _).alloc (Nat.le_refl _) _⟩
  · obtain ⟨a, cap, rfl, _, _⟩ := owns_slice hw
    have hx : memB f ws id = false := by
      have : wordAt f ws (id / 64) = 0 := by simp [wordAt, h1]
      simp [memB, this]
    have h1' : (id : Int) / 64 < f := by omega
    rw [hx]
    clear hx hw hlt h1
    go_enter Ybad.func15, Ybad.ntmps15
    go_wp2
    go_ret
    exact ⟨rfl, (Below.refl _ _).alloc (Nat.le_refl _) _⟩

/-- The table in its variable. -/
def TabAt (w : World) : Prop := ∀ j, j < 64 → w.cell? ⟨0, j, none⟩ = some (.int .u8 (Lib.deBruijn64tab.getD j 0))

set_option maxHeartbeats 1000000 in
theorem tz64_core (x k idx : Nat) (w : World) (hx0 : ((x : Int) == 0) = false)
    (key : IntKind.u64.wrap (bits BinOp.and IntKind.u64 (x : Int) (IntKind.u64.wrap (-(x : Int))) * 285870213051353865) / 288230376151711744 = (idx : Int))
    (hi : idx < 64) (hk : k < 64) (hcell : w.cell? ⟨0, idx, none⟩ = some (.int .u8 k)) :
    Calls Ybad.prog 22 #[.int .u64 x] w fun e w' => e = .returned (.int .i64 k) ∧ w' = w := by
  go_enter Ybad.func22, Ybad.ntmps22
  go_wp2_with (simp only [key])
  go_ret
  exact ⟨rfl, rfl⟩

theorem tz64_key (x a : Nat) (hx : x < 18446744073709551616) (hx0 : x ≠ 0) (hlow : x &&& (18446744073709551616 - x) = a) :
    IntKind.u64.wrap (bits BinOp.and IntKind.u64 (x : Int) (IntKind.u64.wrap (-(x : Int))) * 285870213051353865) / 288230376151711744 = ((a * 285870213051353865 % 18446744073709551616 / 288230376151711744 : Nat) : Int) := by
  have e1 : IntKind.u64.wrap (-(x : Int)) = ((18446744073709551616 - x : Nat) : Int) := by rw [IntKind.wrap_u64]; omega
  rw [e1, bits_and_u64_nat x _ hx (by omega), hlow, IntKind.wrap_u64]
  omega

/-- **bits.TrailingZeros64, at every x but 0.** -/
theorem tz64_any (x : Nat) (hx : x < 18446744073709551616) (hx0 : x ≠ 0) (w : World) (hT : TabAt w) :
    Calls Ybad.prog 22 #[.int .u64 x] w fun e w' => e = .returned (.int .i64 (Lib.ctz 64 x)) ∧ w' = w := by
  obtain ⟨hlow, hk⟩ := Lib.lowest_bit 64 x hx0 hx
  obtain ⟨hi, htab⟩ := Lib.deBruijn64_at _ hk
  have key := tz64_key x _ hx hx0 hlow
  have hc := hT _ hi
  rw [htab] at hc
  refine tz64_core x _ _ w ?_ key hi hk hc
  rw [beq_eq_false_iff_ne]; omega

end Go.Proofs.YbulkcuksDoor
