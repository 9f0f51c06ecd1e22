/-
  The walk of LawS4806AAnyText.
-/
import Derived.Test.YbulkcumwDoorDate
namespace Go.Proofs.YbulkcumwDoor
open Go.RowKit

theorem law_big (t : ByteArray) (ex : Bool) (w : World) (hb : 1024 < t.size) : Calls Ybad.prog 3 #[.string t, .bool ex] w fun e w' => e = .returned (.bool true) ∧ Below w.heap.size w w' := by
  have h1 : (1024 : Int) < t.size := by omega
  go_enter Ybad.func3, Ybad.ntmps3
  go_wp2
  all_goals (go_ret; exact ⟨rfl, Below.refl _ _⟩)

theorem eql_zero (W : World) : (binOp .eql 29 (.agg #[.int .i32 0, .int .u8 0, .int .u8 0]) (.agg #[.int .i32 0, .int .u8 0, .int .u8 0])).run Ybad.prog W = .ok (.bool true) W := by kernel_rfl

/-- the scanner that the law lays -/
def S0 (t : ByteArray) (ex : Bool) : Obj := .cells #[.string t, .int .i64 0, .bool ex, .string { data := #[] }, .slice none 0 0] 27

theorem frozen_row (w : World) (g j : Nat) (cs : Array Value) (t : TypeId) (hg : w.heap[g]? = some (.cells cs t (0, 0))) : w.frozen? ⟨g, j, none⟩ = false := by simp [World.frozen?, hg]

theorem S0_sc (w : World) (t : ByteArray) (ex : Bool) : Sc (w.alloc (S0 t ex)) w.heap.size t 0 ex { data := #[] } := by
  have hb : (w.alloc (S0 t ex)).heap[w.heap.size]? = some (.cells #[.string t, .int .i64 0, .bool ex, .string { data := #[] }, .slice none 0 0] 27 (0, 0)) := heap_alloc_new w _
  refine ⟨?_, ?_, ?_, ?_, ⟨.slice none 0 0, ?_⟩, fun j => frozen_row _ _ j _ 27 hb⟩
  · rw [cell_of_row _ w.heap.size 0 _ 27 (0, 0) hb]; rfl
  · rw [cell_of_row _ w.heap.size 1 _ 27 (0, 0) hb]; rfl
  · rw [cell_of_row _ w.heap.size 2 _ 27 (0, 0) hb]; rfl
  · rw [cell_of_row _ w.heap.size 3 _ 27 (0, 0) hb]; rfl
  · rw [cell_of_row _ w.heap.size 4 _ 27 (0, 0) hb]; rfl

theorem Kp.below {w w2 : World} {o : Obj} (h : Kp (w.alloc o) w2 w.heap.size) : Below w.heap.size w w2 :=
  ⟨h.os, h.tape, h.output, Nat.le_trans (by simp) h.size, fun i hi => (h.block i (by simp; omega) (by omega)).trans (Below.heap_alloc w o i hi)⟩

theorem daysOf_le (y m : Int) : daysOf y m ≤ 31 := by
  unfold daysOf
  split
  · split <;> omega
  · split <;> omega

theorem law_walk (t : ByteArray) (ex : Bool) (w : World) (ht : t.size ≤ 1024) (hT : Tab w) :
    Calls Ybad.prog 3 #[.string t, .bool ex] w fun e w' => e = .returned (.bool true) ∧ Below w.heap.size w w' := by
  have h1 : ¬ (1024 : Int) < t.size := by omega
  have HT := hid hT
  have h0 := hT.lt
  have HT2 : Hid (Tab (w.alloc (S0 t ex))) := hT.kp ((Kp.refl w w.heap.size).alloc _) (by omega)
  clear hT
  go_enter Ybad.func3, Ybad.ntmps3
  go_wp2_with (fail)
  refine (date_calls w.heap.size t ex { data := #[] } _ (S0_sc w t ex) HT2.out (by omega) ht).mono ?_
  rintro e w2 ⟨a, b, c', q, f, rfl, hS, hK, hq, hz, hok⟩
  have c1 := hS.c1
  have c3 := hS.c3
  have HB := hid hK.below
  have hsz : w.heap.size < w2.heap.size := hS.lt
  clear hS hK
  cases he : f.toList.isEmpty with
  | false =>
    obtain ⟨rfl, rfl, rfl⟩ := hz he
    have he' : (!f.toList.isEmpty) = true := by rw [he]; rfl
    have hez := eql_zero
    clear hz hok
    go_wp2_with (fail)
    go_ret
    exact ⟨rfl, HB.out.alloc (by omega) _⟩
  | true =>
    obtain ⟨q4, t4, hdig, rfl, b1, b12, d1, dd⟩ := hok he
    clear hz hok
    have he' : (!f.toList.isEmpty) = false := by rw [he]; rfl
    have g1 : ¬ (t.size : Int) < 4 := by omega
    have g2 : ¬ (q : Int) < 4 := by omega
    have g3 : ¬ (t.size : Int) < q := by omega
    have HD := hid hdig
    have hvr := val_range t 4 (by omega) hdig
    obtain ⟨v0, v1⟩ := hvr
    clear hdig
    go_wp2_with (fail)
    go_loopw [7, 8] (fun y c wv => ∃ k : Nat, c = .int .i64 k ∧ k ≤ 4 ∧ y = .int .i64 (val t k) ∧ wv = w2.alloc (.cells #[.int .i32 (val t 4), .int .u8 b, .int .u8 c'] 29)) (fun _ c _ => 4 - (intOf c).toNat)
    case atStart => exact ⟨0, rfl, by omega, rfl, rfl⟩
    case round =>
      obtain ⟨k, rfl, hk, rfl, rfl⟩ := hrel
      have hv := val_range t k hk (fun j hj => HD.out j (by omega))
      obtain ⟨y0, y1⟩ := hv
      by_cases hk4 : k < 4
      · have h4 : (k : Int) < 4 := by omega
        have hkt : k < t.size := by omega
        have hkt2 : (k : Int) < t.size := by omega
        have hdk := HD.out k hk4
        have hbk : byteAt t k = (t[k].toNat : Int) := by unfold byteAt; rw [dif_pos hkt]
        unfold isDig at hdk
        have hvs : val t (k + 1) = val t k * 10 + ((t[k].toNat : Int) - 48) := by rw [← hbk]; rfl
        rw [hbk] at hdk
        obtain ⟨z0, z1⟩ := hdk
        have z2 : ¬ (t[k].toNat : Int) < 48 := by omega
        have z3 : ¬ 57 < (t[k].toNat : Int) := by omega
        have z4 : ((t[k].toNat : Int) - 48) % 256 = (t[k].toNat : Int) - 48 := by omega
        have HV := hid hvs
        clear hvs hbk
        go_wp2_with (fail)
        go_roundw
        case rel => exact ⟨k + 1, by go_num, by omega, by rw [HV.out], trivial⟩
        case measure => simp [intOf]; omega
      · obtain rfl : k = 4 := by omega
        have db := daysOf_le (val t 4) b
        have x1 : IntKind.i64.wrap (val t 4) = val t 4 := by rw [IntKind.wrap_i64]; omega
        have x2 : IntKind.i64.wrap b = b := by rw [IntKind.wrap_i64]; omega
        have x3 : IntKind.i64.wrap c' = c' := by rw [IntKind.wrap_i64]; omega
        have r1 : ¬ b < 1 := by omega
        have r2 : ¬ 12 < b := by omega
        have r3 : ¬ c' < 1 := by omega
        have r4 : ¬ daysOf (val t 4) b < c' := by omega
        go_wp2_with (fail)
        refine (days_calls (val t 4) b _ v0 b1 b12).mono ?_
        rintro e w3 ⟨rfl, rfl⟩
        go_wp2_with (fail)
        go_ret
        exact ⟨rfl, HB.out.alloc (by omega) _⟩

end Go.Proofs.YbulkcumwDoor
