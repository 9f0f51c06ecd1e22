/-
  zzs4802cmatch.
-/
import Derived.Test.YbulkcuksDoorAdd
import Derived.Deep.RegionHeld3
import Derived.Deep.DrawnRows
namespace Go.Proofs.YbulkcuksDoor
open Go.RowKit
attribute [local go_sem ↓] Go.wp_at_zero Go.wp_at_succ

set_option maxRecDepth 100000 in
set_option maxHeartbeats 2000000 in
/-- zzs4802cmatch says true where the set's pages are the wanted ones and its count is theirs. -/
theorem match_true (f1 base wb cn : Nat) (ws1 : List Nat) (v1 c2 c3 c4 : Value) (N : Nat → Bool) (w : World) (hown : w.ownsRow base 22 1 v1 ws1.length (encW ws1)) (hlt : ∀ x ∈ ws1, x < 18446744073709551616) (hbd : f1 + ws1.length ≤ 64)
    (hM : ∀ x, x < 4096 → memB f1 ws1 x = N x) (hcn : cn = countTo N 4096) (hw : ∀ i, i < 4096 → w.cell? ⟨wb, i, none⟩ = some (.bool (N i))) (hwb : wb < w.heap.size) :
    Calls Ybad.prog 9 #[.agg #[.int .i64 f1, v1, c2, c3, c4, .int .i64 cn], .slice (some ⟨wb, 0, none⟩) 4096 4096] w fun e w' => e = .returned (.bool true) ∧ Below w.heap.size w w' := by
  obtain ⟨a, cap, rfl, _, _⟩ := owns_slice hown
  have HM : Hid _ := hM
  have HW : Hid _ := hw
  have HO : Hid _ := hown.alloc (.cells #[.int .i64 f1, .slice a ws1.length cap, c2, c3, c4, .int .i64 cn] 40)
  have HL : Hid _ := hlt
  have HC : Hid _ := hcn
  clear hM hw hown hlt hcn
  go_enter Ybad.func9, Ybad.ntmps9
  go_wp2_with fail
  obtain ⟨W, hW⟩ : ∃ W, W = w.alloc (.cells #[.int .i64 f1, .slice a ws1.length cap, c2, c3, c4, .int .i64 cn] 40) := ⟨_, rfl⟩
  have hB0 : Below w.heap.size w W := by rw [hW]; exact (Below.refl _ _).alloc (Nat.le_refl _) _
  have hbox : ∀ i, W.cell? ⟨w.heap.size, i, none⟩ = (#[.int .i64 f1, .slice a ws1.length cap, c2, c3, c4, .int .i64 cn] : Array Value)[i]? := fun i => by rw [hW]; exact World.cell?_alloc_at (w := w) _ _ w.heap.size i rfl
  have hsz : W.heap.size = w.heap.size + 1 := by rw [hW]; simp
  have hb0 : W.cell? ⟨w.heap.size, 0, none⟩ = some (.int .i64 f1) := by rw [hbox]; rfl
  have hb1 : W.cell? ⟨w.heap.size, 1, none⟩ = some (.slice a ws1.length cap) := by rw [hbox]; rfl
  have hb5 : W.cell? ⟨w.heap.size, 5, none⟩ = some (.int .i64 cn) := by rw [hbox]; rfl
  have HW2 : Hid (∀ i, i < 4096 → W.cell? ⟨wb, i, none⟩ = some (.bool (N i))) := fun i hi => (hB0.cell (p := ⟨wb, i, none⟩) hwb).trans (HW.out i hi)
  have HB : Hid (Below w.heap.size w W ∧ W.heap.size = w.heap.size + 1 ∧ W.cell? ⟨w.heap.size, 0, none⟩ = some (.int .i64 f1) ∧ W.cell? ⟨w.heap.size, 1, none⟩ = some (.slice a ws1.length cap) ∧ W.cell? ⟨w.heap.size, 5, none⟩ = some (.int .i64 cn)) := ⟨hB0, hsz, hb0, hb1, hb5⟩
  rw [← hW]
  have HO2 : Hid (W.ownsRow base 22 1 (.slice a ws1.length cap) ws1.length (encW ws1)) := by rw [hW]; exact HO.out
  clear hW HO hbox hB0 hsz hb0 hb1 hb5 HW
  go_loopw [5, 6] (fun t i wr => ∃ k : Nat, k ≤ 4096 ∧ i = .int .i64 k ∧ t = .int .i64 (countTo N k : Nat) ∧ Below W.heap.size W wr) (fun _ i _ => 4096 - (intOf i).toNat)
  case atStart => exact ⟨0, Nat.zero_le _, rfl, rfl, Below.refl _ _⟩
  case round =>
    obtain ⟨k, hk, rfl, rfl, hB⟩ := hrel
    obtain ⟨hB0, hsz, hb0, hb1, hb5⟩ := HB.out
    have hcl := countTo_le N k
    have e0 : wr.cell? ⟨w.heap.size, 0, none⟩ = some (.int .i64 f1) := (hB.cell (p := ⟨w.heap.size, 0, none⟩) (by rw [hsz]; show w.heap.size < _; omega)).trans hb0
    have e1 : wr.cell? ⟨w.heap.size, 1, none⟩ = some (.slice a ws1.length cap) := (hB.cell (p := ⟨w.heap.size, 1, none⟩) (by rw [hsz]; show w.heap.size < _; omega)).trans hb1
    have e5 : wr.cell? ⟨w.heap.size, 5, none⟩ = some (.int .i64 cn) := (hB.cell (p := ⟨w.heap.size, 5, none⟩) (by rw [hsz]; show w.heap.size < _; omega)).trans hb5
    by_cases hlt : k < 4096
    · have ew : wr.cell? ⟨wb, k, none⟩ = some (.bool (N k)) := (hB.cell (p := ⟨wb, k, none⟩) (by rw [hsz]; show wb < _; omega)).trans (HW2.out k hlt)
      have HC2 : Hid (countTo N (k + 1) = countTo N k + if N k then 1 else 0) := rfl
      have HK : Hid _ := fun W2 (hB2 : Below wr.heap.size wr W2) => bit_any f1 k base _ ws1 W2 (ownsRow_of_block HO2.out (fun x hx => ((hB2.block x (Nat.lt_of_lt_of_le (HO2.out.lt x hx).2 hB.size)).trans (hB.block x (HO2.out.lt x hx).2)))) HL.out (by omega) hlt
      have HMk := HM.out k hlt
      have HSZ : Hid _ := hsz
      clear hb0 hb1 hb5 hsz hB0
      go_wp2_with fail
      have hB3 := hB
      have hwz : w.heap.size < wr.heap.size := by have := hB.size; have := HSZ.out; omega
      have HZ : Hid (w.heap.size < wr.heap.size ∧ wb < wr.heap.size) := ⟨hwz, by omega⟩
      go_region_held3 (fun w' => w'.cell? ⟨w.heap.size, 0, none⟩ = some (.int .i64 f1) ∧ w'.cell? ⟨w.heap.size, 1, none⟩ = some (.slice a ws1.length cap) ∧ w'.cell? ⟨wb, k, none⟩ = some (.bool (N k))) (go_keep) ((go_at_call 15; refine (HK.out _ ((Below.refl _ _).drew)).mono ?_; rintro e w2 ⟨rfl, hb2⟩; have c0 := (hb2.cell (p := ⟨w.heap.size, 0, none⟩) HZ.out.1).trans e0; have c1 := (hb2.cell (p := ⟨w.heap.size, 1, none⟩) HZ.out.1).trans e1; have cw := (hb2.cell (p := ⟨wb, k, none⟩) HZ.out.2).trans ew))
      have hb3 : Below W.heap.size W w2 := hB.trans (((Below.refl _ _).drew.trans hb2).mono (by have := hB.size; exact this))
      clear hb2 e0 e1 ew c0 c1 HK
      cases hN : N k
      · have HN : Hid _ := hN
        rw [hN] at HMk cw
        clear hN
        go_wp2
        go_roundw
        case rel => exact ⟨k + 1, by omega, by go_num, by rw [HC2.out, HN.out]; simp, hb3⟩
        case measure => simp [intOf]; omega
      · have HN : Hid _ := hN
        rw [hN] at HMk cw
        clear hN
        go_wp2
        go_roundw
        case rel => exact ⟨k + 1, by omega, by go_num, by rw [HC2.out, HN.out]; go_num, hb3⟩
        case measure => simp [intOf]; omega
    · have hk2 : k = 4096 := by omega
      subst hk2
      have hc := HC.out
      have HE : Hid (((cn : Int) == (countTo N 4096 : Nat)) = true) := by rw [← hc]; simp [Hid]
      generalize countTo N 4096 = q at *
      clear hc HC
      go_wp2
      go_ret
      exact ⟨ret_bool HE.out, hB0.trans (hB.mono (by omega))⟩
end Go.Proofs.YbulkcuksDoor
