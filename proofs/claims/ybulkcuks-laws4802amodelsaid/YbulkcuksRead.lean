/-
  THE WALKS OF WHAT ONLY READS: bitset.end, word, has, zzs4802cbit, bits.TrailingZeros64.
-/
import Derived.Test.YbulkcuksRows
import Derived.Test.YbulkcuksPlain
import Derived.WalkKit
import Derived.WalkSpells
import Derived.WalkLawsBesides
namespace Go.Proofs.Ybulkcuks
open Go.RowKit

def encW (ws : List Nat) : List Value := ws.map fun (x : Nat) => Value.int .u64 (x : Int)

theorem owns_at {w : World} {base : Nat} {v : Value} {ws : List Nat} (h : w.ownsRow base 40 1 v ws.length (encW ws)) {k : Nat} (hk : k < ws.length) :
    ∃ g cap, v = .slice (some ⟨g, 0, none⟩) ws.length cap ∧ g < w.heap.size ∧ base ≤ g ∧ ws.length ≤ cap ∧ cap ≤ maxLen ∧ w.cell? ⟨g, k, none⟩ = some (.int .u64 (ws[k] : Nat)) := by
  rcases h.2 with ⟨_, h0⟩ | ⟨g, cap, cur, rfl, hb, hg, hc, hm, hsz, htake⟩
  · omega
  · refine ⟨g, cap, rfl, (Array.getElem?_eq_some_iff.1 hg).1, hb, hc, hm, ?_⟩
    rw [cell_of_row w g k cur 40 (0, 0) hg]
    have h1 : (encW ws)[k]? = some (.int .u64 (ws[k] : Nat)) := by simp [encW, hk]
    rw [← htake, List.getElem?_take, if_pos (by omega)] at h1
    simpa using h1

theorem owns_slice {w : World} {base : Nat} {v : Value} {ws : List Nat} (h : w.ownsRow base 40 1 v ws.length (encW ws)) :
    ∃ a cap, v = .slice a ws.length cap ∧ ws.length ≤ cap ∧ cap ≤ maxLen := by
  rcases h.2 with ⟨rfl, h0⟩ | ⟨g, cap, cur, rfl, _, _, h1, h2, _⟩
  · exact ⟨none, 0, by rw [h0], by omega, by unfold maxLen; omega⟩
  · exact ⟨_, _, rfl, h1, h2⟩

set_option maxHeartbeats 400000 in
theorem end_any (f n : Nat) (a : Option Addr) (c : Nat) (w : World) (hf : f + n ≤ 1000000) :
    Calls Yba.prog 22 #[.agg #[.int .i64 f, .slice a n c]] w fun e w' => e = .returned (.int .i64 ((f : Int) + n)) ∧ Below w.heap.size w w' := by
  go_enter Yba.func22, Yba.ntmps22
  go_wp2
  go_ret
  exact ⟨rfl, (Below.refl _ _).alloc (Nat.le_refl _) _⟩

set_option maxHeartbeats 400000 in
theorem word_any (f i base : Nat) (v : Value) (ws : List Nat) (w : World) (hw : w.ownsRow base 40 1 v ws.length (encW ws)) (hf : f + ws.length ≤ 1000000) (hi : i ≤ 1000000) :
    Calls Yba.prog 19 #[.agg #[.int .i64 f, v], .int .i64 i] w fun e w' => e = .returned (.int .u64 (wordAt f ws i)) ∧ Below w.heap.size w w' := by
  by_cases h1 : f ≤ i
  · by_cases h2 : i - f < ws.length
    · obtain ⟨g, cap, rfl, hg, _, hc, hm, hcell⟩ := owns_at hw h2
      have hx : wordAt f ws i = ws[i - f] := by simp [wordAt, h1, h2]
      generalize ws[i - f] = x at hcell hx
      rw [hx]
      clear hx hw
      go_enter Yba.func19, Yba.ntmps19
      go_wp2
      go_ret
      exact ⟨rfl, (Below.refl _ _).alloc (Nat.le_refl _) _⟩
    · obtain ⟨a, cap, rfl, _, _⟩ := owns_slice hw
      have hx : wordAt f ws i = 0 := by simp [wordAt, h1]; rw [List.getElem?_eq_none (by omega)]; rfl
      rw [hx]
      clear hx hw
      go_enter Yba.func19, Yba.ntmps19
      go_wp2
      go_ret
      exact ⟨rfl, (Below.refl _ _).alloc (Nat.le_refl _) _⟩
  · obtain ⟨a, cap, rfl, _, _⟩ := owns_slice hw
    have hx : wordAt f ws i = 0 := by simp [wordAt, h1]
    rw [hx]
    clear hx hw
    go_enter Yba.func19, Yba.ntmps19
    go_wp2
    go_ret
    exact ⟨rfl, (Below.refl _ _).alloc (Nat.le_refl _) _⟩

theorem ret_bool {a b : Bool} (h : a = b) : Ending.returned (.bool a) = .returned (.bool b) := by rw [h]

set_option maxHeartbeats 400000 in
theorem has_any (f id base : Nat) (v : Value) (ws : List Nat) (w : World) (hw : w.ownsRow base 40 1 v ws.length (encW ws)) (hlt : ∀ x ∈ ws, x < 18446744073709551616) (hf : f + ws.length ≤ 1000000) (hi : id < 4096) :
    Calls Yba.prog 9 #[.agg #[.int .i64 f, v], .int .u32 id] w fun e w' => e = .returned (.bool (memB f ws id)) ∧ Below w.heap.size w w' := by
  have hw1 := hw.alloc (Obj.cells #[Value.int IntKind.i64 ↑f, v] 73)
  obtain ⟨a, cap, rfl, _, _⟩ := owns_slice hw
  have hm := mask_test (wordAt f ws (id / 64)) (id % 64) (wordAt_lt f ws _ hlt) (Nat.mod_lt _ (by decide))
  have HM : Hid _ := hm
  clear hm hlt
  go_enter Yba.func9, Yba.ntmps9
  go_wp2_with fail
  rw [show ((id : Int) / 64) = ((id / 64 : Nat) : Int) by omega]
  refine (word_any f (id / 64) base _ ws _ hw1 hf (by omega)).mono ?_
  rintro e w' ⟨rfl, hb⟩
  go_wp2
  go_ret
  exact ⟨ret_bool HM.out, ((Below.refl _ _).alloc (Nat.le_refl _) _).trans (hb.mono (by simp))⟩

end Go.Proofs.Ybulkcuks
