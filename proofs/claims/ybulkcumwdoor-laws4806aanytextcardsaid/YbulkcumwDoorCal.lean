/-
  calendarDate.
-/
import Derived.Test.YbulkcumwDoorPart
import Derived.Test.YbulkcumwDoorDays
namespace Go.Proofs.YbulkcumwDoor
open Go.RowKit

/-- the table monthDays lies in block 0 -/
def Tab (w : World) : Prop := ∀ i, i < 12 → w.cell? ⟨0, i, none⟩ = some (.int .u8 (md.getD i 0))

theorem Tab.lt {w : World} (h : Tab w) : 0 < w.heap.size := World.block_lt_of_cell? w ⟨0, 0, none⟩ (h 0 (by omega))
theorem Tab.kp {w w' : World} {rb : Nat} (h : Tab w) (hk : Kp w w' rb) (hr : rb ≠ 0) : Tab w' := fun i hi =>
  (World.cell?_of_block (a := ⟨0, i, none⟩) (hk.block 0 h.lt (fun e => hr e.symm))).trans (h i hi)

/-- what calendarDate answers and leaves -/
def CalPost (w : World) (rb : Nat) (t : ByteArray) (p : Nat) (ex : Bool) (ff : ByteArray) (Y M D : Int) (e : Ending) (w' : World) : Prop :=
  ∃ (a b c : Int) (f' : ByteArray), e = .returned (.agg #[.int .i32 a, .int .u8 b, .int .u8 c]) ∧ Sc w' rb t p ex f' ∧ Kp w w' rb ∧
    (f'.toList.isEmpty = false → a = 0 ∧ b = 0 ∧ c = 0) ∧ (f'.toList.isEmpty = true → ff.toList.isEmpty = true ∧ a = Y ∧ b = M ∧ c = D ∧ D ≤ daysOf Y M)

theorem cal_calls (rb : Nat) (t : ByteArray) (p : Nat) (ex : Bool) (ff : ByteArray) (Y M D : Int) (w : World) (h : Sc w rb t p ex ff) (hT : Tab w) (hr : rb ≠ 0)
    (hv : ff.toList.isEmpty = true → 0 ≤ Y ∧ Y ≤ 9999 ∧ 1 ≤ M ∧ M ≤ 12 ∧ 1 ≤ D ∧ D ≤ 31) :
    Calls Ybad.prog 10 #[.pointer (some ⟨rb, 0, none⟩), .int .i64 Y, .int .i64 M, .int .i64 D] w fun e w' => CalPost w rb t p ex ff Y M D e w' := by
  have HS := hid h
  obtain ⟨c0, c1, c2, c3, ⟨v4, c4⟩, z⟩ := h
  have hlt := HS.out.lt
  cases he : ff.toList.isEmpty with
  | false =>
    have he' : (!ff.toList.isEmpty) = true := by rw [he]; rfl
    clear hv
    go_enter Ybad.func10, Ybad.ntmps10
    go_wp2_with (fail)
    exact bodyPost_ret (v := .agg #[.int .i32 0, .int .u8 0, .int .u8 0]) (by simp [results, Ybad.results10, go_sem]) rfl ⟨0, 0, 0, ff, rfl, HS.out.alloc _, (Kp.refl w rb).alloc _, fun _ => ⟨rfl, rfl, rfl⟩, fun h => by rw [he] at h; cases h⟩
  | true =>
    obtain ⟨y0, y1, m0, m1, d0, d1⟩ := hv he
    clear hv
    have HT := hid hT
    clear hT
    by_cases hd : D ≤ daysOf Y M
    · have hd2 : ¬ daysOf Y M < D := by omega
      go_enter Ybad.func10, Ybad.ntmps10
      go_wp2_with (fail)
      refine (daysIn_calls Y M _ y0 m0 m1 (HT.out.kp ((Kp.refl w rb).alloc _) hr)).mono ?_
      rintro e w2 ⟨rfl, rfl⟩
      have x1 : IntKind.i32.wrap Y = Y := by rw [IntKind.wrap_i32]; omega
      have x2 : IntKind.u8.wrap M = M := by rw [IntKind.wrap_u8]; omega
      have x3 : IntKind.u8.wrap D = D := by rw [IntKind.wrap_u8]; omega
      go_wp2_with (fail)
      exact bodyPost_ret (v := .agg #[.int .i32 Y, .int .u8 M, .int .u8 D]) (by simp [results, Ybad.results10, go_sem]) rfl ⟨Y, M, D, ff, rfl, HS.out.alloc _, (Kp.refl w rb).alloc _, (fun h => by rw [he] at h; cases h), fun _ => ⟨he, rfl, rfl, rfl, hd⟩⟩
    · have hd2 : daysOf Y M < D := by omega
      go_enter Ybad.func10, Ybad.ntmps10
      go_wp2_with (fail)
      refine (daysIn_calls Y M _ y0 m0 m1 (HT.out.kp ((Kp.refl w rb).alloc _) hr)).mono ?_
      rintro e w2 ⟨rfl, rfl⟩
      go_wp2_with (fail)
      refine (fail_calls rb t p ex ff _ _ _ _ _ ((HS.out.alloc _).alloc _) (by kernel_rfl)).mono ?_
      rintro e w3 ⟨rfl, f', hf', hS', hK'⟩
      have hb : w3.heap[w.heap.size]? = some (.cells #[.int .i32 0, .int .u8 0, .int .u8 0] 29 (0, 0)) := by
        rw [hK'.block w.heap.size (by simp; omega) (by omega), Below.heap_alloc _ _ _ (by simp)]
        exact heap_alloc_new w _
      have k0 : w3.cell? ⟨w.heap.size, 0, none⟩ = some (.int .i32 0) := by rw [cell_of_row w3 w.heap.size 0 _ 29 (0, 0) hb]; rfl
      have k1 : w3.cell? ⟨w.heap.size, 1, none⟩ = some (.int .u8 0) := by rw [cell_of_row w3 w.heap.size 1 _ 29 (0, 0) hb]; rfl
      have k2 : w3.cell? ⟨w.heap.size, 2, none⟩ = some (.int .u8 0) := by rw [cell_of_row w3 w.heap.size 2 _ 29 (0, 0) hb]; rfl
      have fz : ∀ j, w3.frozen? ⟨w.heap.size, j, none⟩ = false := fun j => by simp [World.frozen?, hb]
      have HK := hid hK'
      have HS3 := hid hS'
      have HB := hid hb
      clear hK' hS' hb
      go_wp2_with (fail)
      refine bodyPost_ret (v := .agg #[.int .i32 0, .int .u8 0, .int .u8 0]) (by simp [results, Ybad.results10, go_sem, k0, k1, k2]) rfl ⟨0, 0, 0, f', rfl, HS3.out.of_block ?_, ?_, fun _ => ⟨rfl, rfl, rfl⟩, (fun h => by rw [hf'] at h; cases h)⟩
      · rw [Below.heap_setCell _ _ _ _ (by show rb ≠ w.heap.size; omega), Below.heap_setCell _ _ _ _ (by show rb ≠ w.heap.size; omega), Below.heap_setCell _ _ _ _ (by show rb ≠ w.heap.size; omega)]
      · exact ((((((Kp.refl w rb).alloc _).alloc _).trans HK.out).setNew _ (Nat.le_refl _) _).setNew _ (Nat.le_refl _) _).setNew _ (Nat.le_refl _) _

end Go.Proofs.YbulkcumwDoor
