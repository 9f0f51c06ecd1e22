/-
  LawS4806AAnyText: a scanner in memory ('Sc'), what a call on it leaves alone ('Kp'), the small methods.
-/
import Derived.Test.YbulkcumwDoorRows
import Derived.WalkKit
import Derived.WalkSpells
import Derived.WalkLawsBesides
import Derived.Below
import Derived.BigQuiet
import Derived.Deep.QuietTactic
import Derived.Deep.RegionWith
import Derived.Deep.DeepCutAuto
namespace Go.Proofs.YbulkcumwDoor
open Go.RowKit

theorem hid {p : Prop} (h : p) : Hid p := h

/-- the byte at place m of the text, 0 from its end on -/
def byteAt (b : ByteArray) (m : Nat) : Int := if h : m < b.size then b[m].toNat else 0

/-- A scanner at rb: its text, its place, whether it is exact, its failure. -/
structure Sc (w : World) (rb : Nat) (t : ByteArray) (p : Nat) (ex : Bool) (ff : ByteArray) : Prop where
  c0 : w.cell? ⟨rb, 0, none⟩ = some (.string t)
  c1 : w.cell? ⟨rb, 1, none⟩ = some (.int .i64 p)
  c2 : w.cell? ⟨rb, 2, none⟩ = some (.bool ex)
  c3 : w.cell? ⟨rb, 3, none⟩ = some (.string ff)
  c4 : ∃ v, w.cell? ⟨rb, 4, none⟩ = some v
  z : ∀ j, w.frozen? ⟨rb, j, none⟩ = false

/-- What a call on the scanner at rb leaves alone: every other block that was there. -/
structure Kp (w w' : World) (rb : Nat) : Prop where
  os : w'.os = w.os
  tape : w'.tape = w.tape
  output : w'.output = w.output
  size : w.heap.size ≤ w'.heap.size
  block : ∀ i, i < w.heap.size → i ≠ rb → w'.heap[i]? = w.heap[i]?

theorem Kp.refl (w : World) (rb : Nat) : Kp w w rb := ⟨rfl, rfl, rfl, Nat.le_refl _, fun _ _ _ => rfl⟩
theorem Kp.trans {a b c : World} {rb : Nat} (h : Kp a b rb) (k : Kp b c rb) : Kp a c rb :=
  ⟨k.os.trans h.os, k.tape.trans h.tape, k.output.trans h.output, Nat.le_trans h.size k.size, fun i hi hr => (k.block i (Nat.lt_of_lt_of_le hi h.size) hr).trans (h.block i hi hr)⟩
theorem Kp.drewN {a b : World} {rb : Nat} (h : Kp a b rb) (n : Nat) : Kp a (b.drewN n) rb := ⟨h.os, h.tape, h.output, h.size, h.block⟩
theorem Kp.drew {a b : World} {rb : Nat} (h : Kp a b rb) : Kp a b.drew rb := ⟨h.os, h.tape, h.output, h.size, h.block⟩
theorem Kp.alloc {a b : World} {rb : Nat} (h : Kp a b rb) (o : Obj) : Kp a (b.alloc o) rb :=
  ⟨h.os, h.tape, h.output, Nat.le_trans h.size (by simp), fun i hi hr => (Below.heap_alloc b o i (Nat.lt_of_lt_of_le hi h.size)).trans (h.block i hi hr)⟩
theorem Kp.set {a b : World} {rb : Nat} (h : Kp a b rb) (j : Nat) (v : Value) : Kp a (b.setCell ⟨rb, j, none⟩ v) rb :=
  ⟨h.os, h.tape, h.output, by simpa [World.setCell] using h.size, fun i hi hr => (Below.heap_setCell b ⟨rb, j, none⟩ v i hr).trans (h.block i hi hr)⟩
/-- a store into a block that is newer than a -/
theorem Kp.setNew {a b : World} {rb : Nat} (h : Kp a b rb) (x : Addr) (hx : a.heap.size ≤ x.block) (v : Value) : Kp a (b.setCell x v) rb :=
  ⟨h.os, h.tape, h.output, by simpa [World.setCell] using h.size, fun i hi hr => (Below.heap_setCell b x v i (by omega)).trans (h.block i hi hr)⟩

theorem Sc.of_block {w w' : World} {rb : Nat} {t : ByteArray} {p : Nat} {ex : Bool} {ff : ByteArray} (h : Sc w rb t p ex ff) (hb : w'.heap[rb]? = w.heap[rb]?) : Sc w' rb t p ex ff := by
  obtain ⟨c0, c1, c2, c3, ⟨v, c4⟩, z⟩ := h
  exact ⟨(World.cell?_of_block (a := ⟨rb, 0, none⟩) hb).trans c0, (World.cell?_of_block (a := ⟨rb, 1, none⟩) hb).trans c1, (World.cell?_of_block (a := ⟨rb, 2, none⟩) hb).trans c2, (World.cell?_of_block (a := ⟨rb, 3, none⟩) hb).trans c3,
    ⟨v, (World.cell?_of_block (a := ⟨rb, 4, none⟩) hb).trans c4⟩, fun j => (World.frozen?_of_block (a := ⟨rb, j, none⟩) hb).trans (z j)⟩
theorem Sc.lt {w : World} {rb : Nat} {t : ByteArray} {p : Nat} {ex : Bool} {ff : ByteArray} (h : Sc w rb t p ex ff) : rb < w.heap.size := World.block_lt_of_cell? w ⟨rb, 0, none⟩ h.c0
theorem Sc.drewN {w : World} {rb : Nat} {t : ByteArray} {p : Nat} {ex : Bool} {ff : ByteArray} (h : Sc w rb t p ex ff) (n : Nat) : Sc (w.drewN n) rb t p ex ff := h.of_block rfl
theorem Sc.drew {w : World} {rb : Nat} {t : ByteArray} {p : Nat} {ex : Bool} {ff : ByteArray} (h : Sc w rb t p ex ff) : Sc w.drew rb t p ex ff := h.of_block rfl
theorem Sc.alloc {w : World} {rb : Nat} {t : ByteArray} {p : Nat} {ex : Bool} {ff : ByteArray} (h : Sc w rb t p ex ff) (o : Obj) : Sc (w.alloc o) rb t p ex ff := h.of_block (Below.heap_alloc w o rb h.lt)

theorem cell_set_off (w : World) (rb i j : Nat) (v : Value) (h : i ≠ j) : (w.setCell ⟨rb, i, none⟩ v).cell? ⟨rb, j, none⟩ = w.cell? ⟨rb, j, none⟩ :=
  World.cell?_setCell_other _ _ _ _ (fun e => h (congrArg Addr.off e))
theorem cell_set_self (w : World) (rb i : Nat) (v u : Value) (h : w.cell? ⟨rb, i, none⟩ = some u) : (w.setCell ⟨rb, i, none⟩ v).cell? ⟨rb, i, none⟩ = some v := by
  simp [go_sem, h]

theorem Sc.setPos {w : World} {rb : Nat} {t : ByteArray} {p : Nat} {ex : Bool} {ff : ByteArray} (h : Sc w rb t p ex ff) (q : Nat) : Sc (w.setCell ⟨rb, 1, none⟩ (.int .i64 q)) rb t q ex ff := by
  obtain ⟨c0, c1, c2, c3, ⟨v, c4⟩, z⟩ := h
  exact ⟨(cell_set_off _ _ _ _ _ (by decide)).trans c0, cell_set_self _ _ _ _ _ c1, (cell_set_off _ _ _ _ _ (by decide)).trans c2, (cell_set_off _ _ _ _ _ (by decide)).trans c3, ⟨v, (cell_set_off _ _ _ _ _ (by decide)).trans c4⟩,
    fun j => by rw [World.frozen?_setCell]; exact z j⟩
theorem Sc.setFail {w : World} {rb : Nat} {t : ByteArray} {p : Nat} {ex : Bool} {ff : ByteArray} (h : Sc w rb t p ex ff) (fmt : ByteArray) (u : Value) :
    Sc ((w.setCell ⟨rb, 3, none⟩ (.string fmt)).setCell ⟨rb, 4, none⟩ u) rb t p ex fmt := by
  obtain ⟨c0, c1, c2, c3, ⟨v, c4⟩, z⟩ := h
  exact ⟨(cell_set_off _ _ _ _ _ (by decide)).trans ((cell_set_off _ _ _ _ _ (by decide)).trans c0), (cell_set_off _ _ _ _ _ (by decide)).trans ((cell_set_off _ _ _ _ _ (by decide)).trans c1), (cell_set_off _ _ _ _ _ (by decide)).trans ((cell_set_off _ _ _ _ _ (by decide)).trans c2),
    (cell_set_off _ _ _ _ _ (by decide)).trans (cell_set_self _ _ _ _ _ c3), ⟨u, cell_set_self _ _ _ _ _ ((cell_set_off _ _ _ _ _ (by decide)).trans c4)⟩, fun j => by rw [World.frozen?_setCell, World.frozen?_setCell]; exact z j⟩

theorem at_calls (rb : Nat) (t : ByteArray) (p : Nat) (w : World) (h0 : w.cell? ⟨rb, 0, none⟩ = some (.string t)) (h1 : w.cell? ⟨rb, 1, none⟩ = some (.int .i64 p)) (hp2 : p ≤ 1024) :
    Calls Ybad.prog 14 #[.pointer (some ⟨rb, 0, none⟩), .int .i64 0] w fun e w' => e = .returned (.int .u8 (byteAt t p)) ∧ ∃ n, w' = w.drewN n := by
  have hw : IntKind.i64.wrap (p : Int) = p := by rw [IntKind.wrap_i64]; omega
  by_cases hl : p < t.size
  · have hl2 : ¬ (t.size : Int) ≤ p := by omega
    go_enter Ybad.func14, Ybad.ntmps14
    go_wp2_with (fail)
    go_quiet (fail)
    go_wp2_with (fail)
    go_quiet (fail)
    go_wp2_with (fail)
    go_ret
    refine ⟨?_, _, by rw [World.drewN_drewN]⟩
    unfold byteAt
    rw [dif_pos (by omega)]
    rfl
  · have hl2 : (t.size : Int) ≤ p := by omega
    go_enter Ybad.func14, Ybad.ntmps14
    go_wp2_with (fail)
    go_quiet (fail)
    go_wp2_with (fail)
    go_ret
    refine ⟨?_, _, rfl⟩
    unfold byteAt
    rw [dif_neg (by omega)]
    rfl

theorem digit_calls (c : Int) (w : World) : Calls Ybad.prog 11 #[.int .u8 c] w fun e w' => e = .returned (.bool (decide (48 ≤ c) && decide (c ≤ 57))) ∧ w' = w := by
  by_cases h : 48 ≤ c
  · go_enter Ybad.func11, Ybad.ntmps11
    go_wp2_with (fail)
    go_ret
    refine ⟨?_, rfl⟩
    simp [h]
  · go_enter Ybad.func11, Ybad.ntmps11
    go_wp2_with (fail)
    go_ret
    refine ⟨?_, rfl⟩
    have h2 : decide (48 ≤ c) = false := decide_eq_false (by omega)
    rw [h2]
    rfl

theorem fail_calls (rb : Nat) (t : ByteArray) (p : Nat) (ex : Bool) (ff fmt : ByteArray) (a : Option Addr) (l c : Nat) (w : World) (h : Sc w rb t p ex ff) (hf : fmt.toList.isEmpty = false) :
    Calls Ybad.prog 12 #[.pointer (some ⟨rb, 0, none⟩), .string fmt, .slice a l c] w fun e w' => e = .returned (.tuple #[]) ∧ ∃ f', f'.toList.isEmpty = false ∧ Sc w' rb t p ex f' ∧ Kp w w' rb := by
  have HS := hid h
  obtain ⟨c0, c1, c2, c3, ⟨v, c4⟩, z⟩ := h
  have z3 := z 3
  have z4 := z 4
  cases he : ff.toList.isEmpty with
  | true =>
    go_enter Ybad.func12, Ybad.ntmps12
    go_wp2_with (fail)
    go_end0
    exact ⟨rfl, fmt, hf, HS.out.setFail fmt _, ((Kp.refl w rb).set 3 _).set 4 _⟩
  | false =>
    go_enter Ybad.func12, Ybad.ntmps12
    go_wp2_with (fail)
    go_end0
    exact ⟨rfl, ff, he, HS.out, Kp.refl w rb⟩

theorem accept_calls (rb : Nat) (t : ByteArray) (p : Nat) (ex : Bool) (ff : ByteArray) (w : World) (h : Sc w rb t p ex ff) (hp : p ≤ t.size) (ht : t.size ≤ 1024) :
    Calls Ybad.prog 13 #[.pointer (some ⟨rb, 0, none⟩), .int .u8 45] w fun e w' => ∃ b q, e = .returned (.bool b) ∧ p ≤ q ∧ q ≤ t.size ∧ Sc w' rb t q ex ff ∧ Kp w w' rb := by
  have HS := hid h
  obtain ⟨c0, c1, c2, c3, ⟨v, c4⟩, z⟩ := h
  have z1 := z 1
  have hw : IntKind.i64.wrap ((p : Int) + 1) = (p : Int) + 1 := by rw [IntKind.wrap_i64]; omega
  by_cases hb : byteAt t p = 45
  · have hlt : p < t.size := by
      unfold byteAt at hb
      by_cases h : p < t.size
      · exact h
      · rw [dif_neg h] at hb; omega
    have hb2 : (byteAt t p == 45) = true := by rw [hb]; rfl
    go_enter Ybad.func13, Ybad.ntmps13
    go_wp2_with (fail)
    refine (at_calls rb t p w c0 c1 (by omega)).mono ?_
    rintro e w2 ⟨rfl, n, rfl⟩
    go_wp2_with (fail)
    go_ret
    exact ⟨true, p + 1, rfl, by omega, by omega, (HS.out.drewN n).setPos (p + 1), ((Kp.refl w rb).drewN n).set 1 _⟩
  · have hb2 : (byteAt t p == 45) = false := by rw [beq_eq_false_iff_ne]; exact hb
    go_enter Ybad.func13, Ybad.ntmps13
    go_wp2_with (fail)
    refine (at_calls rb t p w c0 c1 (by omega)).mono ?_
    rintro e w2 ⟨rfl, n, rfl⟩
    go_wp2_with (fail)
    go_ret
    exact ⟨false, p, rfl, by omega, hp, HS.out.drewN n, (Kp.refl w rb).drewN n⟩

theorem next_calls (rb : Nat) (t : ByteArray) (p : Nat) (ex : Bool) (ff : ByteArray) (w : World) (h : Sc w rb t p ex ff) (hp : p ≤ t.size) (ht : t.size ≤ 1024) :
    Calls Ybad.prog 8 #[.pointer (some ⟨rb, 0, none⟩), .int .u8 45] w fun e w' => ∃ b q, e = .returned (.bool b) ∧ p ≤ q ∧ q ≤ t.size ∧ Sc w' rb t q ex ff ∧ Kp w w' rb := by
  go_enter Ybad.func8, Ybad.ntmps8
  go_wp2_with (fail)
  refine (accept_calls rb t p ex ff w h hp ht).mono ?_
  rintro e w2 ⟨b, q, rfl, hq1, hq2, hS, hK⟩
  cases b with
  | true =>
    go_wp2_with (fail)
    go_ret
    exact ⟨true, q, rfl, hq1, hq2, hS, hK⟩
  | false =>
    have HS := hid hS
    have HK := hid hK
    clear hS hK
    go_wp2_with (fail)
    refine (at_calls rb t q w2 HS.out.c0 HS.out.c1 (by omega)).mono ?_
    rintro e w3 ⟨rfl, n, rfl⟩
    go_wp2_with (fail)
    refine (digit_calls _ _).mono ?_
    rintro e w4 ⟨rfl, rfl⟩
    go_wp2_with (fail)
    go_ret
    exact ⟨_, q, rfl, hq1, hq2, HS.out.drewN n, HK.out.drewN n⟩

end Go.Proofs.YbulkcumwDoor
