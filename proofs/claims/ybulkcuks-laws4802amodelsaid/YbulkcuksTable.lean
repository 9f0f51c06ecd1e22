/-
  The cache's index: newIndexTable, home.
-/
import Derived.Test.YbulkcuksAtom
import Derived.Deep.OwnRows
namespace Go.Proofs.Ybulkcuks
open Go.RowKit

theorem run_make_wide {P : Program} (t e : TypeId) (z : Value) (size bytes : Nat) (ht : P.underlying t = some (.slice e)) (hinfo : (P.info? e).map (fun i => (i.zero, i.size, i.bytes)) = some (some z, size, bytes))
    (n : Nat) (hb : bytes * n ≤ 281474976710656) (h63 : n ≤ 9223372036854775807) (w : World) :
    (Instr.makeSlice t (.int .i64 (n : Int)) (.int .i64 (n : Int))).run P w = .ok (.slice (some ⟨w.heap.size, 0, none⟩) n n) (w.alloc (.cells (madeCells z.cells (n * size)) e)) := by
  obtain ⟨i, hi, hzz⟩ := Option.map_eq_some_iff.1 hinfo
  simp only [Prod.mk.injEq] at hzz
  obtain ⟨hz, hs, hbb⟩ := hzz
  have hb' : ((bytes * n : Nat) : Int) ≤ 281474976710656 := by omega
  rw [Int.natCast_mul] at hb'
  have h := run_make w t e i z ht hi hz .i64 .i64 (n : Int) (n : Int) (by omega) (by omega) (by rw [hbb]; exact hb') (by omega)
  rw [hs] at h
  simpa using h

/-- the 64 empty entries -/
def eCells : Array Value := madeCells #[.int .u64 0] (64 * 1)

theorem eCells_get (i : Nat) (h : i < 64) : eCells[i]? = some (.int .u64 0) := by
  unfold eCells
  simp [madeCells, h, Nat.mod_one]

theorem make_entries (w : World) : (Instr.makeSlice 98 (.int .i64 64) (.int .i64 64)).run Yba.prog w = .ok (.slice (some ⟨w.heap.size, 0, none⟩) 64 64) (w.alloc (.cells eCells 42)) :=
  run_make_wide 98 42 (.agg #[.int .u64 0]) 1 8 Yba.underlying98 (by kernel_rfl) 64 (by omega) (by omega) w

/-- a new table -/
def tCells (eb : Nat) : Array Value := #[.slice (some ⟨eb, 0, none⟩) 64 64, .int .u64 58, .int .i64 0, .int .i64 0]

set_option maxRecDepth 20000 in
theorem newtab_calls (w : World) : Calls Yba.prog 13 #[.int .i64 64] w fun e w' => e = .returned (.pointer (some ⟨w.heap.size + 1, 0, none⟩)) ∧ w' = (w.alloc (.cells eCells 42)).alloc (.cells (tCells w.heap.size) 101) := by
  have hm := make_entries w
  go_enter Yba.func13, Yba.ntmps13
  go_wp2_with (fail)
  go_loopw [3, 4] (fun s z wv => wv = w ∧ ∃ j : Nat, j ≤ 6 ∧ s = .int .u64 ((64 - j : Nat) : Int) ∧ z = .int .i64 ((2 ^ j : Nat) : Int)) (fun _ z _ => 64 - (intOf z).toNat)
  case atStart => exact ⟨rfl, 0, by omega, rfl, rfl⟩
  case round =>
    obtain ⟨rfl, j, hj, rfl, rfl⟩ := hrel
    have hcase : j = 0 ∨ j = 1 ∨ j = 2 ∨ j = 3 ∨ j = 4 ∨ j = 5 ∨ j = 6 := by omega
    rcases hcase with rfl | rfl | rfl | rfl | rfl | rfl | rfl
    · go_wp2_with (fail); go_roundw; (case rel => exact ⟨trivial, 1, by omega, rfl, rfl⟩); (case measure => simp [intOf])
    · go_wp2_with (fail); go_roundw; (case rel => exact ⟨trivial, 2, by omega, rfl, rfl⟩); (case measure => simp [intOf])
    · go_wp2_with (fail); go_roundw; (case rel => exact ⟨trivial, 3, by omega, rfl, rfl⟩); (case measure => simp [intOf])
    · go_wp2_with (fail); go_roundw; (case rel => exact ⟨trivial, 4, by omega, rfl, rfl⟩); (case measure => simp [intOf])
    · go_wp2_with (fail); go_roundw; (case rel => exact ⟨trivial, 5, by omega, rfl, rfl⟩); (case measure => simp [intOf])
    · go_wp2_with (fail); go_roundw; (case rel => exact ⟨trivial, 6, by omega, rfl, rfl⟩); (case measure => simp [intOf])
    · go_wp2_with (fail)
      go_ret
      exact ⟨rfl, rfl⟩

theorem home_calls (tb id : Nat) (w : World) (h1 : w.cell? ⟨tb, 1, none⟩ = some (.int .u64 58)) (hi : id < 4096) :
    Calls Yba.prog 40 #[.pointer (some ⟨tb, 0, none⟩), .int .u32 id] w fun e w' => (∃ h : Nat, h < 64 ∧ e = .returned (.int .i64 h)) ∧ w' = w := by
  go_enter Yba.func40, Yba.ntmps40
  go_wp2_with (fail)
  go_ret
  refine ⟨⟨((id * 11400714819323198485) % 18446744073709551616) / 288230376151711744, by omega, ?_⟩, rfl⟩
  show Ending.returned (Value.int IntKind.i64 (wrap64 (IntKind.u64.wrap ((id : Int) * 11400714819323198485) / 288230376151711744))) = _
  congr 2
  have e : (id : Int) * 11400714819323198485 = ((id * 11400714819323198485 : Nat) : Int) := by omega
  rw [IntKind.wrap_u64, e]
  generalize id * 11400714819323198485 = m
  unfold wrap64
  omega

/-- The cache at cb, its frames at fb, its index's table at tb with the entries at eb, all empty; the lock is free; ep: the epoch. -/
structure CacheAt (w : World) (cb fb tb eb : Nat) (ep : Int) : Prop where
  c0 : w.cell? ⟨cb, 0, none⟩ = some (.pointer (some ⟨fb, 0, none⟩))
  c4 : w.cell? ⟨cb, 4, none⟩ = some (.pointer (some ⟨tb, 0, none⟩))
  tab : w.heap[tb]? = some (.cells (tCells eb) 101 (0, 0))
  ent : w.heap[eb]? = some (.cells eCells 42 (0, 0))
  mu : w.cell? ⟨fb, 0, none⟩ = some (.int .i32 0)
  muz : w.frozen? ⟨fb, 0, none⟩ = false
  epc : w.cell? ⟨fb, 36, none⟩ = some (.int .u64 ep)
  epz : w.frozen? ⟨fb, 36, none⟩ = false
  slot : ∀ i, i < 64 → w.cell? ⟨fb, 37 + i * 57, none⟩ = some (.int .u64 0)

theorem find_calls (w : World) (cb tb eb id : Nat) (c4 : w.cell? ⟨cb, 4, none⟩ = some (.pointer (some ⟨tb, 0, none⟩))) (tab : w.heap[tb]? = some (.cells (tCells eb) 101 (0, 0))) (ent : w.heap[eb]? = some (.cells eCells 42 (0, 0))) (hi : id < 4096) :
    Calls Yba.prog 33 #[.pointer (some ⟨cb, 4, none⟩), .int .u32 id] w fun e w' => e = .returned (.tuple #[.int .i64 0, .bool false]) ∧ w' = w := by
  have hsh : w.shape? tb = some (101, 4) := by simp [World.shape?, tab, tCells]
  have t0 : w.cell? ⟨tb, 0, none⟩ = some (.slice (some ⟨eb, 0, none⟩) 64 64) := by rw [cell_of_row w tb 0 _ 101 (0, 0) tab]; rfl
  have t1 : w.cell? ⟨tb, 1, none⟩ = some (.int .u64 58) := by rw [cell_of_row w tb 1 _ 101 (0, 0) tab]; rfl
  have he : ∀ i, i < 64 → w.cell? ⟨eb, i, none⟩ = some (.int .u64 0) := fun i h => by rw [cell_of_row w eb i _ 42 (0, 0) ent]; exact eCells_get i h
  have HE : Hid _ := he
  clear he tab ent
  go_enter Yba.func33, Yba.ntmps33
  go_wp2_with (fail)
  refine (pload_calls cb 4 tb w c4 hsh).mono ?_
  rintro e w2 ⟨rfl, rfl⟩
  go_wp2_with (fail)
  refine (home_calls tb id w2 t1 hi).mono ?_
  rintro e w3 ⟨⟨h, hh, rfl⟩, rfl⟩
  have hk := HE.out h hh
  have hh2 : (h : Int) < 64 := by omega
  go_wp2_with (fail)
  go_loopw [8] (fun c wv => c = .int .i64 h ∧ wv = w3) (fun _ _ => 0)
  case atStart => exact ⟨rfl, rfl⟩
  case round =>
    obtain ⟨rfl, rfl⟩ := hrel
    go_wp2_with (fail)
    refine (load_calls eb h 0 _ hk).mono ?_
    rintro e w4 ⟨rfl, rfl⟩
    go_wp2_with (fail)
    go_ret2
    exact ⟨rfl, rfl⟩

end Go.Proofs.Ybulkcuks
