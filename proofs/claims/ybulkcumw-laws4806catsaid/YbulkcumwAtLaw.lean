/-
  The walk of LawS4806CAt.
-/
import Derived.Test.YbulkcumwAt
import Derived.ProofKit
namespace Go.Proofs.Ybulkcumw
open Go.RowKit

theorem eql_nil (w : World) : (binOp .eql 25 (.slice none 0 0) (.slice none 0 0)).run Yba.prog w = .ok (.bool true) w := by kernel_rfl

theorem at_big (t : ByteArray) (a1 a2 : Int) (a3 : Bool) (w : World) (hb : 4096 < t.size) : Calls Yba.prog 3 #[.string t, .int .u16 a1, .int .i16 a2, .bool a3] w fun e w' => e = .returned (.bool true) ∧ Grown w w' := by
  have h1 : (4096 : Int) < t.size := by omega
  go_enter Yba.func3, Yba.ntmps3
  go_wp2
  go_ret
  exact ⟨rfl, Grown.refl _⟩

theorem at_ahead (t : ByteArray) (a1 a2 : Int) (a3 : Bool) (w : World) (hb : t.size ≤ 4096) (h0 : 0 ≤ a1) (h1 : a1 < 65536) (h2 : -32768 ≤ a2) (h3 : a2 < 32768) (hn : a1 % (t.size + 1) + a2 < 0) :
    Calls Yba.prog 3 #[.string t, .int .u16 a1, .int .i16 a2, .bool a3] w fun e w' => e = .returned (.bool true) ∧ Grown w w' := by
  have h4 : ¬ (4096 : Int) < t.size := by omega
  have hw1 : IntKind.i64.wrap a1 = a1 := by rw [IntKind.wrap_i64]; omega
  have hw2 : IntKind.i64.wrap a2 = a2 := by rw [IntKind.wrap_i64]; omega
  have hw3 : IntKind.i64.wrap ((t.size : Int) + 1) = (t.size : Int) + 1 := by rw [IntKind.wrap_i64]; omega
  have hne : ((t.size : Int) + 1 == 0) = false := by simp; omega
  have hp0 : 0 ≤ a1 % ((t.size : Int) + 1) := Int.emod_nonneg _ (by omega)
  have hp1 : a1 % ((t.size : Int) + 1) < (t.size : Int) + 1 := Int.emod_lt_of_pos _ (by omega)
  have hw4 : wrap64 (a1 % ((t.size : Int) + 1) + a2) = a1 % ((t.size : Int) + 1) + a2 := by unfold wrap64; omega
  go_enter Yba.func3, Yba.ntmps3
  go_wp2_with (fail)
  go_ret
  exact ⟨rfl, Grown.refl _⟩

/-- what the loop has found after j rounds -/
def foundAt (t : ByteArray) (m j : Nat) : Int := if m < j then byteAt t m else 0

theorem found_end (t : ByteArray) (m : Nat) : foundAt t m t.size = byteAt t m := by
  unfold foundAt byteAt
  by_cases h : m < t.size
  · rw [if_pos h]
  · rw [if_neg h, dif_neg h]

theorem found_here (t : ByteArray) (m : Nat) (h : m < t.size) : foundAt t m (m + 1) = (t[m].toNat : Int) := by
  unfold foundAt byteAt
  rw [if_pos (by omega), dif_pos h]

theorem found_other (t : ByteArray) (m j : Nat) (h : j ≠ m) : foundAt t m (j + 1) = foundAt t m j := by
  unfold foundAt
  by_cases h1 : m < j
  · rw [if_pos h1, if_pos (by omega)]
  · rw [if_neg h1, if_neg (by omega)]

theorem at_law (t : ByteArray) (a1 a2 : Int) (a3 : Bool) (w : World) (hb : t.size ≤ 4096) (h0 : 0 ≤ a1) (h1 : a1 < 65536) (h2 : -32768 ≤ a2) (h3 : a2 < 32768) (hn : 0 ≤ a1 % (t.size + 1) + a2) :
    Calls Yba.prog 3 #[.string t, .int .u16 a1, .int .i16 a2, .bool a3] w fun e w' => e = .returned (.bool true) ∧ Grown w w' := by
  have h4 : ¬ (4096 : Int) < t.size := by omega
  have hw1 : IntKind.i64.wrap a1 = a1 := by rw [IntKind.wrap_i64]; omega
  have hw2 : IntKind.i64.wrap a2 = a2 := by rw [IntKind.wrap_i64]; omega
  have hw3 : IntKind.i64.wrap ((t.size : Int) + 1) = (t.size : Int) + 1 := by rw [IntKind.wrap_i64]; omega
  have hne : ((t.size : Int) + 1 == 0) = false := by simp; omega
  have hp0 : 0 ≤ a1 % ((t.size : Int) + 1) := Int.emod_nonneg _ (by omega)
  have hp1 : a1 % ((t.size : Int) + 1) < (t.size : Int) + 1 := Int.emod_lt_of_pos _ (by omega)
  have hw4 : wrap64 (a1 % ((t.size : Int) + 1) + a2) = a1 % ((t.size : Int) + 1) + a2 := by unfold wrap64; omega
  go_enter Yba.func3, Yba.ntmps3
  go_wp2_with (fail)
  obtain ⟨m, hm⟩ : ∃ m : Nat, a1 % ((t.size : Int) + 1) + a2 = m := ⟨_, (Int.toNat_of_nonneg hn).symm⟩
  refine (at_calls w.heap.size t (a1 % ((t.size : Int) + 1)) a2 _ (by simp [go_sem]) (by simp [go_sem]) hp0 hn (by omega) (by omega)).mono ?_
  rintro e w2 ⟨rfl, n, rfl⟩
  rw [hm, Int.toNat_natCast]
  rw [hm] at hw4
  have HM := hid hm
  clear hm hn
  go_wp2_with (fail)
  go_loopw [14, 15] (fun d c wv => ∃ j : Nat, c = .int .i64 j ∧ j ≤ t.size ∧ d = .int .u8 (foundAt t m j) ∧ wv = (w.alloc (Obj.cells #[.string t, .int .i64 (a1 % ((t.size : Int) + 1)), .bool a3, .string { data := #[] }, .slice none 0 0] 27)).drewN n) (fun _ c _ => t.size - (intOf c).toNat)
  case atStart => exact ⟨0, rfl, Nat.zero_le _, rfl, rfl⟩
  case round =>
    obtain ⟨j, rfl, hj, rfl, rfl⟩ := hrel
    by_cases hjn : j < t.size
    · have h5 : (j : Int) < t.size := by omega
      by_cases hjm : j = m
      · have h6 : ((j : Int) == a1 % ((t.size : Int) + 1) + a2) = true := by rw [HM.out]; simp [hjm]
        go_wp2_with (fail)
        go_roundw
        case rel => exact ⟨j + 1, by go_num, by omega, by subst hjm; rw [found_here t j hjn], trivial⟩
        case measure => simp [intOf]; omega
      · have h6 : ((j : Int) == a1 % ((t.size : Int) + 1) + a2) = false := by rw [HM.out]; simp; omega
        go_wp2_with (fail)
        go_roundw
        case rel => exact ⟨j + 1, by go_num, by omega, by rw [found_other t m j hjm], trivial⟩
        case measure => simp [intOf]; omega
    · obtain rfl : j = t.size := by omega
      rw [found_end]
      have hnil := eql_nil
      go_wp2_with (fail)
      go_ret
      exact ⟨rfl, ((Grown.refl w).alloc _ _)⟩

end Go.Proofs.Ybulkcumw
