/-
  date.
-/
import Derived.Test.YbulkcumwDoorCal
namespace Go.Proofs.YbulkcumwDoor
open Go.RowKit

/-- what date answers and leaves -/
def DatePost (w : World) (rb : Nat) (t : ByteArray) (ex : Bool) (e : Ending) (w' : World) : Prop :=
  ∃ (a b c : Int) (q : Nat) (f' : ByteArray), e = .returned (.agg #[.int .i32 a, .int .u8 b, .int .u8 c]) ∧ Sc w' rb t q ex f' ∧ Kp w w' rb ∧ q ≤ t.size ∧
    (f'.toList.isEmpty = false → a = 0 ∧ b = 0 ∧ c = 0) ∧
    (f'.toList.isEmpty = true → 4 ≤ q ∧ 4 ≤ t.size ∧ (∀ j, j < 4 → isDig t j) ∧ a = val t 4 ∧ 1 ≤ b ∧ b ≤ 12 ∧ 1 ≤ c ∧ c ≤ daysOf a b)

/-- the reader behind the year -/
structure YearSt (w w2 : World) (rb : Nat) (t : ByteArray) (ex : Bool) (u : Int) (q : Nat) (f : ByteArray) : Prop where
  sc : Sc w2 rb t q ex f
  kp : Kp w w2 rb
  le : q ≤ t.size
  ok : f.toList.isEmpty = true → 4 ≤ q ∧ 4 ≤ t.size ∧ (∀ j, j < 4 → isDig t j) ∧ u = val t 4

def R0 : Obj := .cells #[.int .i32 0, .int .u8 0, .int .u8 0] 29

/-- the result's three cells, set -/
def stored (w9 : World) (r : Nat) (a b c : Int) : World := ((w9.setCell ⟨r, 0, none⟩ (.int .i32 a)).setCell ⟨r, 1, none⟩ (.int .u8 b)).setCell ⟨r, 2, none⟩ (.int .u8 c)

/-- the result's block behind calls on the scanner -/
theorem r_block {w w9 : World} {rb : Nat} (hK : Kp (w.alloc R0) w9 rb) (hlt : rb < w.heap.size) : w9.heap[w.heap.size]? = some (.cells #[.int .i32 0, .int .u8 0, .int .u8 0] 29 (0, 0)) := by
  rw [hK.block w.heap.size (by simp) (by omega)]
  exact heap_alloc_new w _

theorem date_end {w wn w9 : World} {rb : Nat} {t : ByteArray} {ex : Bool} {u m d : Int} {q : Nat} {f : ByteArray} {e : Ending} (hlt : rb < w.heap.size) (h : YearSt (w.alloc R0) wn rb t ex u q f) (hm : f.toList.isEmpty = true → 1 ≤ m ∧ m ≤ 12 ∧ 1 ≤ d ∧ d ≤ 31)
    (hc : CalPost wn rb t q ex f u m d e w9) : ∃ a b c, e = .returned (.agg #[.int .i32 a, .int .u8 b, .int .u8 c]) ∧ Kp (w.alloc R0) w9 rb ∧ DatePost w rb t ex e (stored w9 w.heap.size a b c) := by
  obtain ⟨a, b, c, f', rfl, hS, hK, hz, hok⟩ := hc
  refine ⟨a, b, c, rfl, h.kp.trans hK, a, b, c, q, f', rfl, hS.of_block ?_, ?_, h.le, hz, fun hf => ?_⟩
  · unfold stored
    rw [Below.heap_setCell _ _ _ _ (by show rb ≠ w.heap.size; omega), Below.heap_setCell _ _ _ _ (by show rb ≠ w.heap.size; omega), Below.heap_setCell _ _ _ _ (by show rb ≠ w.heap.size; omega)]
  · have hk : Kp w w9 rb := ((Kp.refl w rb).alloc R0).trans (h.kp.trans hK)
    exact ((hk.setNew _ (Nat.le_refl _) _).setNew _ (Nat.le_refl _) _).setNew _ (Nat.le_refl _) _
  · obtain ⟨hf0, rfl, rfl, rfl, hd⟩ := hok hf
    obtain ⟨h4, h4t, hdig, hu⟩ := h.ok hf0
    have := hm hf0
    exact ⟨h4, h4t, hdig, hu, this.1, this.2.1, this.2.2.1, hd⟩

theorem YearSt.tab {w wn : World} {rb : Nat} {t : ByteArray} {ex : Bool} {u : Int} {q : Nat} {f : ByteArray} (h : YearSt (w.alloc R0) wn rb t ex u q f) (hT : Tab w) (hr : rb ≠ 0) : Tab wn :=
  (hT.kp ((Kp.refl w rb).alloc R0) hr).kp h.kp hr

theorem YearSt.cal {w wn : World} {rb : Nat} {t : ByteArray} {ex : Bool} {u : Int} {q : Nat} {f : ByteArray} (h : YearSt (w.alloc R0) wn rb t ex u q f) (m d : Int) (hm : f.toList.isEmpty = true → 1 ≤ m ∧ m ≤ 12 ∧ 1 ≤ d ∧ d ≤ 31) :
    f.toList.isEmpty = true → 0 ≤ u ∧ u ≤ 9999 ∧ 1 ≤ m ∧ m ≤ 12 ∧ 1 ≤ d ∧ d ≤ 31 := fun hf => by
  obtain ⟨_, _, hdig, rfl⟩ := h.ok hf
  have := val_range t 4 (by omega) hdig
  exact ⟨this.1, this.2, hm hf⟩

set_option maxHeartbeats 1000000 in
theorem date_calls (rb : Nat) (t : ByteArray) (ex : Bool) (ff : ByteArray) (w : World) (h : Sc w rb t 0 ex ff) (hT : Tab w) (hr : rb ≠ 0) (ht : t.size ≤ 1024) :
    Calls Ybad.prog 4 #[.pointer (some ⟨rb, 0, none⟩)] w fun e w' => DatePost w rb t ex e w' := by
  have HS := hid h
  have HT := hid hT
  have HL := hid h.lt
  clear h hT
  go_enter Ybad.func4, Ybad.ntmps4
  go_wp2_with (fail)
  go_cut [3, 4, 5] (fun x y z wc => y = .int .i64 1 ∧ z = .int .i64 1 ∧ ∃ u q f, x = .int .i64 u ∧ YearSt (w.alloc R0) wc rb t ex u q f)
  case first =>
    go_region_with (first
      | (go_at_call 7; refine (decimal_calls rb t ex ff _ ((HS.out.alloc _).drew) ht).mono ?_; rintro e w2 ⟨v, q, rfl, hor, hS, hK⟩)
      | (go_at_call 6; refine (part_calls rb t q ex ff _ _ _ _ v w2 hS (by omega)).mono ?_; rintro e w3 ⟨u, f', rfl, hS3, hK3, hP⟩))
    all_goals
      have HP := hid (And.intro hor (And.intro hP (And.intro hS3 (And.intro hK hK3))))
      clear hor hP hS3 hK hK3
      go_wp2_with (fail)
      go_meet
      obtain ⟨hor, hP, hS3, hK, hK3⟩ := HP.out
      refine ⟨rfl, rfl, u, q, f', rfl, hS3, (((Kp.refl _ rb).drew).trans hK).trans hK3, ?_, fun hf => ?_⟩
      · rcases hor with h | h <;> omega
      · have := hP hf
        rcases hor with h | h
        · omega
        · exact ⟨by omega, h.1, h.2.1, by rw [this.2.1]; exact h.2.2.1⟩
  case rest =>
    obtain ⟨rfl, rfl, u, q, f, rfl, hY⟩ := hcut
    have HY := hid hY
    clear hY
    go_wp2_with (fail)
    refine (next_calls rb t q ex f wc HY.out.sc HY.out.le ht).mono ?_
    rintro e w4 ⟨b, q4, rfl, hq4a, hq4b, hS4, hK4⟩
    have HY4 : Hid (YearSt (w.alloc R0) w4 rb t ex u q4 f) := ⟨hS4, HY.out.kp.trans hK4, hq4b, fun hf => by
      have := HY.out.ok hf
      exact ⟨by omega, this.2⟩⟩
    clear hS4 hK4
    cases b with
    | false =>
      go_wp2_with (fail)
      refine (cal_calls rb t q4 ex f u 1 1 w4 HY4.out.sc (HY4.out.tab HT.out hr) hr (HY4.out.cal 1 1 (fun _ => by omega))).mono ?_
      intro e w9 hC
      obtain ⟨a, b, c, rfl, hK9, hD⟩ := date_end HL.out HY4.out (fun _ => by omega) hC
      have hb := r_block hK9 HL.out
      have k0 : w9.cell? ⟨w.heap.size, 0, none⟩ = some (.int .i32 0) := by rw [cell_of_row w9 w.heap.size 0 _ 29 (0, 0) hb]; rfl
      have k1 : w9.cell? ⟨w.heap.size, 1, none⟩ = some (.int .u8 0) := by rw [cell_of_row w9 w.heap.size 1 _ 29 (0, 0) hb]; rfl
      have k2 : w9.cell? ⟨w.heap.size, 2, none⟩ = some (.int .u8 0) := by rw [cell_of_row w9 w.heap.size 2 _ 29 (0, 0) hb]; rfl
      have fz : ∀ j, w9.frozen? ⟨w.heap.size, j, none⟩ = false := fun j => by simp [World.frozen?, hb]
      have HD := hid hD
      clear hD hb hC hK9
      go_wp2_with (fail)
      exact bodyPost_ret (v := .agg #[.int .i32 a, .int .u8 b, .int .u8 c]) (by simp [results, Ybad.results4, go_sem, k0, k1, k2]) rfl HD.out
    | true =>
      go_wp2_with (fail)
      go_cut [4] (fun x wc => ∃ m q f, x = .int .i64 m ∧ YearSt (w.alloc R0) wc rb t ex u q f ∧ (f.toList.isEmpty = true → 1 ≤ m ∧ m ≤ 12))
      case first =>
        go_region_with (first
          | (go_at_call 9; refine (two_calls rb t q4 ex f _ (HY4.out.sc.drew) hq4b ht).mono ?_; rintro e w5 ⟨v5, q5, rfl, hv0, hv1, hq5a, hq5b, hS5, hK5⟩)
          | (go_at_call 6; refine (part_calls rb t q5 ex f _ _ _ _ v5 w5 hS5 (by omega)).mono ?_; rintro e w6 ⟨m, f6, rfl, hS6, hK6, hP6⟩))
        all_goals
          have HP := hid (And.intro hP6 (And.intro hS6 (And.intro hK5 hK6)))
          clear hP6 hS6 hK5 hK6 hS5
          go_wp2_with (fail)
          go_meet
          obtain ⟨hP6, hS6, hK5, hK6⟩ := HP.out
          refine ⟨m, q5, f6, rfl, ⟨hS6, ((HY4.out.kp.drew).trans hK5).trans hK6, hq5b, fun hf => ?_⟩, fun hf => ?_⟩
          · have := HY4.out.ok (hP6 hf).1
            exact ⟨by omega, this.2⟩
          · have := hP6 hf
            omega
      case rest =>
        clear hq4a hq4b HY4
        obtain ⟨m, q6, f6, rfl, hY6, hm6⟩ := hcut
        have HY6 := hid hY6
        have HM6 := hid hm6
        clear hY6 hm6
        go_wp2_with (fail)
        refine (next_calls rb t q6 ex f6 wc HY6.out.sc HY6.out.le ht).mono ?_
        rintro e w7 ⟨b, q7, rfl, hq7a, hq7b, hS7, hK7⟩
        have HY7 : Hid (YearSt (w.alloc R0) w7 rb t ex u q7 f6) := ⟨hS7, HY6.out.kp.trans hK7, hq7b, fun hf => by
          have := HY6.out.ok hf
          exact ⟨by omega, this.2⟩⟩
        clear hS7 hK7
        cases b with
        | false =>
          go_wp2_with (fail)
          refine (cal_calls rb t q7 ex f6 u m 1 w7 HY7.out.sc (HY7.out.tab HT.out hr) hr (HY7.out.cal m 1 (fun hf => ⟨(HM6.out hf).1, (HM6.out hf).2, by omega, by omega⟩))).mono ?_
          intro e w9 hC
          obtain ⟨a, b, c, rfl, hK9, hD⟩ := date_end HL.out HY7.out (fun hf => ⟨(HM6.out hf).1, (HM6.out hf).2, by omega, by omega⟩) hC
          have hb := r_block hK9 HL.out
          have k0 : w9.cell? ⟨w.heap.size, 0, none⟩ = some (.int .i32 0) := by rw [cell_of_row w9 w.heap.size 0 _ 29 (0, 0) hb]; rfl
          have k1 : w9.cell? ⟨w.heap.size, 1, none⟩ = some (.int .u8 0) := by rw [cell_of_row w9 w.heap.size 1 _ 29 (0, 0) hb]; rfl
          have k2 : w9.cell? ⟨w.heap.size, 2, none⟩ = some (.int .u8 0) := by rw [cell_of_row w9 w.heap.size 2 _ 29 (0, 0) hb]; rfl
          have fz : ∀ j, w9.frozen? ⟨w.heap.size, j, none⟩ = false := fun j => by simp [World.frozen?, hb]
          have HD := hid hD
          clear hD hb hC hK9
          go_wp2_with (fail)
          exact bodyPost_ret (v := .agg #[.int .i32 a, .int .u8 b, .int .u8 c]) (by simp [results, Ybad.results4, go_sem, k0, k1, k2]) rfl HD.out
        | true =>
          go_wp2_with (fail)
          go_cut [5] (fun x wc => ∃ d q f, x = .int .i64 d ∧ YearSt (w.alloc R0) wc rb t ex u q f ∧ (f.toList.isEmpty = true → 1 ≤ m ∧ m ≤ 12 ∧ 1 ≤ d ∧ d ≤ 31))
          case first =>
            go_region_with (first
              | (go_at_call 9; refine (two_calls rb t q7 ex f6 _ (HY7.out.sc.drew) hq7b ht).mono ?_; rintro e w5 ⟨v5, q5, rfl, hv0, hv1, hq5a, hq5b, hS5, hK5⟩)
              | (go_at_call 6; refine (part_calls rb t q5 ex f6 _ _ _ _ v5 w5 hS5 (by omega)).mono ?_; rintro e w8 ⟨d, f8, rfl, hS8, hK8, hP8⟩))
            all_goals
              have HP := hid (And.intro hP8 (And.intro hS8 (And.intro hK5 hK8)))
              clear hP8 hS8 hK5 hK8 hS5
              go_wp2_with (fail)
              go_meet
              obtain ⟨hP8, hS8, hK5, hK8⟩ := HP.out
              refine ⟨d, q5, f8, rfl, ⟨hS8, ((HY7.out.kp.drew).trans hK5).trans hK8, hq5b, fun hf => ?_⟩, fun hf => ?_⟩
              · have := HY7.out.ok (hP8 hf).1
                exact ⟨by omega, this.2⟩
              · have := hP8 hf
                exact ⟨(HM6.out this.1).1, (HM6.out this.1).2, by omega, by omega⟩
          case rest =>
            clear hq7a hq7b HY7
            obtain ⟨d, q8, f8, rfl, hY8, hm8⟩ := hcut
            have HY8 := hid hY8
            have HM8 := hid hm8
            clear hY8 hm8
            go_wp2_with (fail)
            refine (cal_calls rb t q8 ex f8 u m d wc HY8.out.sc (HY8.out.tab HT.out hr) hr (HY8.out.cal m d HM8.out)).mono ?_
            intro e w9 hC
            obtain ⟨a, b, c, rfl, hK9, hD⟩ := date_end HL.out HY8.out HM8.out hC
            have hb := r_block hK9 HL.out
            have k0 : w9.cell? ⟨w.heap.size, 0, none⟩ = some (.int .i32 0) := by rw [cell_of_row w9 w.heap.size 0 _ 29 (0, 0) hb]; rfl
            have k1 : w9.cell? ⟨w.heap.size, 1, none⟩ = some (.int .u8 0) := by rw [cell_of_row w9 w.heap.size 1 _ 29 (0, 0) hb]; rfl
            have k2 : w9.cell? ⟨w.heap.size, 2, none⟩ = some (.int .u8 0) := by rw [cell_of_row w9 w.heap.size 2 _ 29 (0, 0) hb]; rfl
            have fz : ∀ j, w9.frozen? ⟨w.heap.size, j, none⟩ = false := fun j => by simp [World.frozen?, hb]
            have HD := hid hD
            clear hD hb hC hK9
            go_wp2_with (fail)
            exact bodyPost_ret (v := .agg #[.int .i32 a, .int .u8 b, .int .u8 c]) (by simp [results, Ybad.results4, go_sem, k0, k1, k2]) rfl HD.out

end Go.Proofs.YbulkcumwDoor
