/-
  daysIn, zzs4806adays: the days of a month.
-/
import Derived.Test.YbulkcumwDoorLow
namespace Go.Proofs.YbulkcumwDoor
open Go.RowKit

def leap (y : Int) : Bool := (y % 4 == 0) && (!(y % 100 == 0) || (y % 400 == 0))

/-- the days of month m of year y -/
def daysOf (y m : Int) : Int := if m = 2 then (if leap y then 29 else 28) else if m = 4 ∨ m = 6 ∨ m = 9 ∨ m = 11 then 30 else 31

/-- the table's bytes -/
def md : List Int := [31, 28, 31, 30, 31, 30, 31, 31, 30, 31, 30, 31]

theorem months {m : Int} (h1 : 1 ≤ m) (h2 : m ≤ 12) : m = 1 ∨ m = 2 ∨ m = 3 ∨ m = 4 ∨ m = 5 ∨ m = 6 ∨ m = 7 ∨ m = 8 ∨ m = 9 ∨ m = 10 ∨ m = 11 ∨ m = 12 := by omega

theorem days_calls (y m : Int) (w : World) (hy : 0 ≤ y) (h1 : 1 ≤ m) (h2 : m ≤ 12) :
    Calls Ybad.prog 5 #[.int .i64 y, .int .i64 m] w fun e w' => e = .returned (.int .i64 (daysOf y m)) ∧ w' = w := by
  by_cases hm : m = 2
  · subst hm
    have hd : daysOf y 2 = if leap y then 29 else 28 := by unfold daysOf; rw [if_pos rfl]
    rw [hd]
    clear hd h1 h2
    unfold leap
    cases e1 : (y % 4 == 0)
    · go_enter Ybad.func5, Ybad.ntmps5
      go_wp2_with (fail)
      all_goals (go_ret; exact ⟨rfl, rfl⟩)
    · cases e2 : (y % 100 == 0)
      · go_enter Ybad.func5, Ybad.ntmps5
        go_wp2_with (fail)
        all_goals (go_ret; exact ⟨rfl, rfl⟩)
      · have e2' : (y % 100 != 0) = false := by unfold bne; rw [e2]; rfl
        cases e3 : (y % 400 == 0)
        · go_enter Ybad.func5, Ybad.ntmps5
          go_wp2_with (fail)
          all_goals (go_ret; exact ⟨rfl, rfl⟩)
        · go_enter Ybad.func5, Ybad.ntmps5
          go_wp2_with (fail)
          all_goals (go_ret; exact ⟨rfl, rfl⟩)
  · rcases months h1 h2 with rfl | h | rfl | rfl | rfl | rfl | rfl | rfl | rfl | rfl | rfl | rfl
    · clear hm h1 h2; go_enter Ybad.func5, Ybad.ntmps5; go_wp2_with (fail); all_goals (go_ret; exact ⟨rfl, rfl⟩)
    · exact absurd h hm
    all_goals (clear hm h1 h2; go_enter Ybad.func5, Ybad.ntmps5; go_wp2_with (fail); all_goals (go_ret; exact ⟨rfl, rfl⟩))

theorem daysIn_calls (y m : Int) (w : World) (hy : 0 ≤ y) (h1 : 1 ≤ m) (h2 : m ≤ 12) (hM : ∀ i, i < 12 → w.cell? ⟨0, i, none⟩ = some (.int .u8 (md.getD i 0))) :
    Calls Ybad.prog 15 #[.int .i64 y, .int .i64 m] w fun e w' => e = .returned (.int .i64 (daysOf y m)) ∧ w' = w := by
  have k0 : w.cell? ⟨0, 0, none⟩ = some (.int .u8 31) := hM 0 (by omega)
  have k1 : w.cell? ⟨0, 1, none⟩ = some (.int .u8 28) := hM 1 (by omega)
  have k2 : w.cell? ⟨0, 2, none⟩ = some (.int .u8 31) := hM 2 (by omega)
  have k3 : w.cell? ⟨0, 3, none⟩ = some (.int .u8 30) := hM 3 (by omega)
  have k4 : w.cell? ⟨0, 4, none⟩ = some (.int .u8 31) := hM 4 (by omega)
  have k5 : w.cell? ⟨0, 5, none⟩ = some (.int .u8 30) := hM 5 (by omega)
  have k6 : w.cell? ⟨0, 6, none⟩ = some (.int .u8 31) := hM 6 (by omega)
  have k7 : w.cell? ⟨0, 7, none⟩ = some (.int .u8 31) := hM 7 (by omega)
  have k8 : w.cell? ⟨0, 8, none⟩ = some (.int .u8 30) := hM 8 (by omega)
  have k9 : w.cell? ⟨0, 9, none⟩ = some (.int .u8 31) := hM 9 (by omega)
  have k10 : w.cell? ⟨0, 10, none⟩ = some (.int .u8 30) := hM 10 (by omega)
  have k11 : w.cell? ⟨0, 11, none⟩ = some (.int .u8 31) := hM 11 (by omega)
  clear hM
  by_cases hm : m = 2
  · subst hm
    have hd : daysOf y 2 = if leap y then 29 else 28 := by unfold daysOf; rw [if_pos rfl]
    rw [hd]
    clear hd h1 h2
    unfold leap
    cases e1 : (y % 4 == 0)
    · go_enter Ybad.func15, Ybad.ntmps15
      go_wp2_with (fail)
      all_goals (go_ret; exact ⟨rfl, rfl⟩)
    · cases e2 : (y % 100 == 0)
      · go_enter Ybad.func15, Ybad.ntmps15
        go_wp2_with (fail)
        all_goals (go_ret; exact ⟨rfl, rfl⟩)
      · have e2' : (y % 100 != 0) = false := by unfold bne; rw [e2]; rfl
        cases e3 : (y % 400 == 0)
        · go_enter Ybad.func15, Ybad.ntmps15
          go_wp2_with (fail)
          all_goals (go_ret; exact ⟨rfl, rfl⟩)
        · go_enter Ybad.func15, Ybad.ntmps15
          go_wp2_with (fail)
          all_goals (go_ret; exact ⟨rfl, rfl⟩)
  · rcases months h1 h2 with rfl | h | rfl | rfl | rfl | rfl | rfl | rfl | rfl | rfl | rfl | rfl
    · clear hm h1 h2; go_enter Ybad.func15, Ybad.ntmps15; go_wp2_with (fail); all_goals (go_ret; exact ⟨rfl, rfl⟩)
    · exact absurd h hm
    all_goals (clear hm h1 h2; go_enter Ybad.func15, Ybad.ntmps15; go_wp2_with (fail); all_goals (go_ret; exact ⟨rfl, rfl⟩))

end Go.Proofs.YbulkcumwDoor
