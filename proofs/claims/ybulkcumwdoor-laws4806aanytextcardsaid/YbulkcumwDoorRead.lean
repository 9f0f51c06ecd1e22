/-
  twoDigits, decimal, part.
-/
import Derived.Test.YbulkcumwDoorLow
import Derived.Lib.ConvBytes
namespace Go.Proofs.YbulkcumwDoor
open Go.RowKit

theorem byteAt_range (t : ByteArray) (m : Nat) : 0 ≤ byteAt t m ∧ byteAt t m ≤ 255 := by
  unfold byteAt
  by_cases h : m < t.size
  · rw [dif_pos h]
    have := UInt8.toNat_lt t[m]
    omega
  · rw [dif_neg h]; omega

/-- what a reading of two digits answers and leaves -/
def TwoPost (w : World) (rb : Nat) (t : ByteArray) (p : Nat) (ex : Bool) (ff : ByteArray) (e : Ending) (w' : World) : Prop :=
  ∃ (v : Int) (q : Nat), e = .returned (.int .i64 v) ∧ -1 ≤ v ∧ v ≤ 99 ∧ p ≤ q ∧ q ≤ t.size ∧ Sc w' rb t q ex ff ∧ Kp w w' rb

theorem two_calls (rb : Nat) (t : ByteArray) (p : Nat) (ex : Bool) (ff : ByteArray) (w : World) (h : Sc w rb t p ex ff) (hp : p ≤ t.size) (ht : t.size ≤ 1024) :
    Calls Ybad.prog 9 #[.pointer (some ⟨rb, 0, none⟩)] w fun e w' => TwoPost w rb t p ex ff e w' := by
  have HS := hid h
  obtain ⟨c0, c1, c2, c3, ⟨v, c4⟩, z⟩ := h
  have z1 := z 1
  have hw : IntKind.i64.wrap ((p : Int) + 2) = (p : Int) + 2 := by rw [IntKind.wrap_i64]; omega
  by_cases hl : p + 2 ≤ t.size
  · have hl2 : ¬ (t.size : Int) < (p : Int) + 2 := by omega
    go_enter Ybad.func9, Ybad.ntmps9
    go_wp2_with (fail)
    have hsz : (t.extract p (p + 2)).size = 2 := by rw [ByteArray.size_extract]; omega
    generalize t.extract p (p + 2) = s at hsz
    have i0 : 0 < s.size := by omega
    have i1 : 1 < s.size := by omega
    have r0 : 0 ≤ ((s[0].toNat : Int) - 48) % 256 := Int.emod_nonneg _ (by omega)
    have r1 : 0 ≤ ((s[1].toNat : Int) - 48) % 256 := Int.emod_nonneg _ (by omega)
    by_cases h0 : ((s[0].toNat : Int) - 48) % 256 ≤ 9
    · by_cases h1 : ((s[1].toNat : Int) - 48) % 256 ≤ 9
      · go_quiet (fail)
        go_wp2_with (fail)
        go_ret
        exact ⟨_, p + 2, rfl, by omega, by omega, by omega, hl, (HS.out.drewN _).setPos (p + 2), ((Kp.refl w rb).drewN _).set 1 _⟩
      · go_quiet (fail)
        go_wp2_with (fail)
        go_ret
        exact ⟨-1, p, rfl, by omega, by omega, by omega, hp, HS.out.drewN _, (Kp.refl w rb).drewN _⟩
    · go_quiet (fail)
      go_wp2_with (fail)
      go_ret
      exact ⟨-1, p, rfl, by omega, by omega, by omega, hp, HS.out.drewN _, (Kp.refl w rb).drewN _⟩
  · have hl2 : (t.size : Int) < (p : Int) + 2 := by omega
    go_enter Ybad.func9, Ybad.ntmps9
    go_wp2_with (fail)
    go_ret
    exact ⟨-1, p, rfl, by omega, by omega, by omega, hp, HS.out, Kp.refl w rb⟩

/-- the number that the first k bytes write -/
def val (t : ByteArray) : Nat → Int
  | 0 => 0
  | k + 1 => val t k * 10 + (byteAt t k - 48)

/-- byte k is a digit -/
def isDig (t : ByteArray) (k : Nat) : Prop := 48 ≤ byteAt t k ∧ byteAt t k ≤ 57

theorem val_range (t : ByteArray) : ∀ k, k ≤ 4 → (∀ j, j < k → isDig t j) → 0 ≤ val t k ∧ val t k ≤ 9999
  | 0, _, _ => by unfold val; omega
  | 1, _, h => by have h0 := h 0 (by omega); unfold isDig at h0; simp only [val]; omega
  | 2, _, h => by have h0 := h 0 (by omega); have h1 := h 1 (by omega); unfold isDig at h0 h1; simp only [val]; omega
  | 3, _, h => by have h0 := h 0 (by omega); have h1 := h 1 (by omega); have h2 := h 2 (by omega); unfold isDig at h0 h1 h2; simp only [val]; omega
  | 4, _, h => by have h0 := h 0 (by omega); have h1 := h 1 (by omega); have h2 := h 2 (by omega); have h3 := h 3 (by omega); unfold isDig at h0 h1 h2 h3; simp only [val]; omega
  | k + 5, h, _ => by omega

theorem conv_four (t : ByteArray) (W : World) (h : 4 ≤ t.size) : ∃ W' cap, (convert 9 42 (.string (t.extract 0 4))).run Ybad.prog W = .ok (.slice (some ⟨W.heap.size, 0, none⟩) 4 cap) W' ∧ Below W.heap.size W W' ∧
    ∀ j, j < 4 → W'.cell? ⟨W.heap.size, j, none⟩ = some (.int .u8 (byteAt t j)) := by
  have hsz : (t.extract 0 4).size = 4 := by rw [ByteArray.size_extract]; omega
  have hr := Lib.run_convert_string_bytes (P := Ybad.prog) W 9 42 5 (t.extract 0 4) Ybad.underlying9 Ybad.underlying42 Ybad.underlying5
  rw [hsz] at hr
  refine ⟨_, _, hr, ⟨rfl, rfl, rfl, by rw [Lib.bytesWorld_size]; omega, fun j hj => Lib.bytesWorld_at_old W 5 _ j hj⟩, fun j hj => ?_⟩
  rw [Lib.bytesWorld_cell W 5 _ j (by omega)]
  unfold byteAt
  rw [dif_pos (by omega)]
  congr 3
  have e1 : (t.extract 0 4).data.toList.getD j 0 = (t.extract 0 4)[j] := by
    rw [List.getD_eq_getElem?_getD, List.getElem?_eq_getElem (by simpa using (by omega : j < (t.extract 0 4).size))]
    rfl
  rw [e1, ByteArray.getElem_extract]
  simp

/-- what decimal(4) answers and leaves -/
def DecPost (w : World) (rb : Nat) (t : ByteArray) (ex : Bool) (ff : ByteArray) (e : Ending) (w' : World) : Prop :=
  ∃ (v : Int) (q : Nat), e = .returned (.int .i64 v) ∧ ((v = -1 ∧ q = 0) ∨ (4 ≤ t.size ∧ (∀ j, j < 4 → isDig t j) ∧ v = val t 4 ∧ q = 4)) ∧ Sc w' rb t q ex ff ∧ Kp w w' rb

theorem Kp.of_below {w w' : World} (h : Below w.heap.size w w') (rb : Nat) : Kp w w' rb := ⟨h.os, h.tape, h.output, h.size, fun i hi _ => h.block i hi⟩

theorem decimal_calls (rb : Nat) (t : ByteArray) (ex : Bool) (ff : ByteArray) (w : World) (h : Sc w rb t 0 ex ff) (ht : t.size ≤ 1024) :
    Calls Ybad.prog 7 #[.pointer (some ⟨rb, 0, none⟩), .int .i64 4] w fun e w' => DecPost w rb t ex ff e w' := by
  have HS := hid h
  obtain ⟨c0, c1, c2, c3, ⟨v, c4⟩, z⟩ := h
  have z1 := z 1
  by_cases hl : 4 ≤ t.size
  · have hl2 : ¬ (t.size : Int) < 4 := by omega
    go_enter Ybad.func7, Ybad.ntmps7
    go_wp2_with (fail)
    go_quiet (fail)
    obtain ⟨W', cap, hconv, hB, hcs⟩ := conv_four t (w.drewN nq) hl
    simp only [World.heap_drewN] at hconv hcs
    have HC := hid hcs
    have HB := hid hB
    have hrb : W'.heap[rb]? = w.heap[rb]? := hB.block rb HS.out.lt
    have HS2 := hid (HS.out.of_block hrb)
    have k1 := HS2.out.c1
    have k1z := HS2.out.z 1
    clear hcs hB hrb
    go_wp2_with (fail)
    go_loopw [6, 28] (fun v c wv => ∃ k : Nat, c = .int .i64 k ∧ k ≤ 4 ∧ v = .int .i64 (val t k) ∧ (∀ j, j < k → isDig t j) ∧ wv = W') (fun _ c _ => 4 - (intOf c).toNat)
    case atStart => exact ⟨0, rfl, by omega, rfl, fun j hj => by omega, rfl⟩
    case round =>
      obtain ⟨k, rfl, hk, rfl, hd, rfl⟩ := hrel
      have HD := hid hd
      have hv := val_range t k hk hd
      obtain ⟨hv0, hv1⟩ := hv
      clear hd
      by_cases hk4 : k < 4
      · have h4 : (k : Int) < 4 := by omega
        have hck := HC.out k hk4
        have hr := byteAt_range t k
        by_cases hdg : isDig t k
        · unfold isDig at hdg
          have hw8 : (byteAt t k - 48) % 256 = byteAt t k - 48 := by omega
          have h9 : ¬ 9 < byteAt t k - 48 := by omega
          go_wp2_with (fail)
          go_roundw
          case rel => exact ⟨k + 1, by go_num, by omega, rfl, fun j hj => by
            by_cases e : j = k
            · rw [e]; exact hdg
            · exact HD.out j (by omega), trivial⟩
          case measure => simp [intOf]; omega
        · have hw8 : ¬ (byteAt t k - 48) % 256 ≤ 9 := by unfold isDig at hdg; omega
          go_wp2_with (fail)
          go_ret
          exact ⟨-1, 0, rfl, .inl ⟨rfl, rfl⟩, HS2.out, ((Kp.refl w rb).drewN nq).trans (Kp.of_below HB.out rb)⟩
      · obtain rfl : k = 4 := by omega
        go_wp2_with (fail)
        go_ret
        exact ⟨_, 4, rfl, .inr ⟨hl, HD.out, rfl, rfl⟩, HS2.out.setPos 4, (((Kp.refl w rb).drewN nq).trans (Kp.of_below HB.out rb)).set 1 _⟩
  · have hl2 : (t.size : Int) < 4 := by omega
    go_enter Ybad.func7, Ybad.ntmps7
    go_wp2_with (fail)
    go_quiet (fail)
    go_wp2_with (fail)
    go_ret
    exact ⟨-1, 0, rfl, .inl ⟨rfl, rfl⟩, HS.out.drewN _, (Kp.refl w rb).drewN _⟩

end Go.Proofs.YbulkcumwDoor
