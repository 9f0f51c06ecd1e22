/-
  The walk of LawS4806CShift.
-/
import Derived.Test.YbulkcumwAt
import Derived.ProofKit
import Derived.Deep.RegionWith
namespace Go.Proofs.Ybulkcumw
open Go.RowKit

theorem shift_big (t : ByteArray) (a1 a2 : Int) (w : World) (hb : 4096 < t.size ∨ t.size = 0) : Calls Yba.prog 4 #[.string t, .int .u16 a1, .int .u8 a2] w fun e w' => e = .returned (.bool true) ∧ Grown w w' := by
  rcases hb with hb | hb
  · have h1 : (4096 : Int) < t.size := by omega
    go_enter Yba.func4, Yba.ntmps4
    go_wp2
    all_goals (go_ret; exact ⟨rfl, Grown.refl _⟩)
  · have h1 : ¬ (4096 : Int) < t.size := by omega
    have h2 : ((t.size : Int) == 0) = true := by simp [hb]
    clear hb
    go_enter Yba.func4, Yba.ntmps4
    go_wp2
    all_goals (go_ret; exact ⟨rfl, Grown.refl _⟩)

/-- the two scanners of the law -/
def two (w : World) (t : ByteArray) (p p1 : Int) : World :=
  (w.alloc (.cells #[.string t, .int .i64 p, .bool false, .string { data := #[] }, .slice none 0 0] 27)).alloc (.cells #[.string t, .int .i64 p1, .bool false, .string { data := #[] }, .slice none 0 0] 27)

theorem at_first (w : World) (t : ByteArray) (p p1 k : Int) (n : Nat) (hp : 0 ≤ p) (hk : 0 ≤ k) (hk2 : k ≤ 65536) (hp2 : p ≤ 65536) :
    Calls Yba.prog 5 #[.pointer (some ⟨w.heap.size, 0, none⟩), .int .i64 k] ((two w t p p1).drewN n) fun e w' => e = .returned (.int .u8 (byteAt t (p + k).toNat)) ∧ ∃ n2, w' = ((two w t p p1).drewN n).drewN n2 :=
  at_calls w.heap.size t p k _ (by simp [two, go_sem]) (by simp [two, go_sem]) hp (by omega) hk2 hp2

theorem at_second (w : World) (t : ByteArray) (p p1 k k1 : Int) (n : Nat) (hp : 0 ≤ p) (hk : 0 ≤ k) (hk2 : k ≤ 65536) (hp2 : p + 1 ≤ 65536) (e1 : p1 = p + 1) (e2 : k1 = k + 1) :
    Calls Yba.prog 5 #[.pointer (some ⟨w.heap.size + 1, 0, none⟩), .int .i64 k] ((two w t p p1).drewN n) fun e w' => e = .returned (.int .u8 (byteAt t (p + k1).toNat)) ∧ ∃ n2, w' = ((two w t p p1).drewN n).drewN n2 := by
  have h := at_calls (w.heap.size + 1) t p1 k ((two w t p p1).drewN n) (by simp [two, go_sem]) (by simp [two, go_sem]) (by omega) (by omega) hk2 (by omega)
  rw [show p1 + k = p + k1 by omega] at h
  exact h

theorem at_here (w : World) (t : ByteArray) (p p1 : Int) (n : Nat) (hp : 0 ≤ p) (hp2 : p ≤ 65536) (h : p.toNat < t.size) :
    Calls Yba.prog 5 #[.pointer (some ⟨w.heap.size, 0, none⟩), .int .i64 0] ((two w t p p1).drewN n) fun e w' => e = .returned (.int .u8 (t[p.toNat].toNat : Int)) ∧ ∃ n2, w' = ((two w t p p1).drewN n).drewN n2 := by
  have h1 := at_first w t p p1 0 n hp (by omega) (by omega) hp2
  unfold byteAt at h1
  rw [Int.add_zero, dif_pos h] at h1
  exact h1

theorem shift_law (t : ByteArray) (a1 a2 : Int) (w : World) (hb : t.size ≤ 4096) (hz : 0 < t.size) (h0 : 0 ≤ a1) (h1 : a1 < 65536) (h2 : 0 ≤ a2) (h3 : a2 < 256) :
    Calls Yba.prog 4 #[.string t, .int .u16 a1, .int .u8 a2] w fun e w' => e = .returned (.bool true) ∧ Grown w w' := by
  have h4 : ¬ (4096 : Int) < t.size := by omega
  have h5 : ((t.size : Int) == 0) = false := by rw [beq_eq_false_iff_ne]; omega
  have hw1 : IntKind.i64.wrap a1 = a1 := by rw [IntKind.wrap_i64]; omega
  have hw2 : IntKind.i64.wrap a2 = a2 := by rw [IntKind.wrap_i64]; omega
  have hp0 : 0 ≤ a1 % (t.size : Int) := Int.emod_nonneg _ (by omega)
  have hp1 : a1 % (t.size : Int) < (t.size : Int) := Int.emod_lt_of_pos _ (by omega)
  have hlt : (a1 % (t.size : Int)).toNat < t.size := by omega
  obtain ⟨k1, hk1⟩ : ∃ k1, k1 = a2 + 1 := ⟨_, rfl⟩
  have hw3 : IntKind.i64.wrap (a2 + 1) = k1 := by rw [IntKind.wrap_i64]; omega
  have hw5 : wrap64 (a2 + 1) = k1 := by unfold wrap64; omega
  have hA := fun n : Nat => at_first w t (a1 % (t.size : Int)) (a1 % (t.size : Int) + 1) k1 n hp0 (by omega) (by omega) (by omega)
  have hS := fun n : Nat => at_second w t (a1 % (t.size : Int)) (a1 % (t.size : Int) + 1) a2 k1 n hp0 (by omega) (by omega) (by omega) rfl hk1
  have hH := fun n : Nat => at_here w t (a1 % (t.size : Int)) (a1 % (t.size : Int) + 1) n hp0 (by omega) hlt
  unfold two at hA hS hH
  have HA := hid hA
  have HS := hid hS
  have HH := hid hH
  have HK := hid hk1
  clear hA hS hH hk1
  go_enter Yba.func4, Yba.ntmps4
  go_wp2_with (fail)
  go_quiet (first | (go_at_call 5; with_reducible exact Calls.quiet_of (HA.out _)) | (go_at_call 5; with_reducible exact Calls.quiet_of (HS.out _)) | (go_at_call 5; with_reducible exact Calls.quiet_of (HH.out _)))
  go_wp2_with (fail)
  go_ret
  exact ⟨rfl, ((Grown.refl w).alloc _ _).alloc _ _⟩

end Go.Proofs.Ybulkcumw
