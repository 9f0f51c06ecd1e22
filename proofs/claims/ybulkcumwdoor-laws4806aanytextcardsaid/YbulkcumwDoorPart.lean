/-
  part: a part's check.
-/
import Derived.Test.YbulkcumwDoorRead
namespace Go.Proofs.YbulkcumwDoor
open Go.RowKit

/-- what part answers and leaves -/
def PartPost (w : World) (rb : Nat) (t : ByteArray) (p : Nat) (ex : Bool) (ff : ByteArray) (lo hi v : Int) (e : Ending) (w' : World) : Prop :=
  ∃ (u : Int) (f' : ByteArray), e = .returned (.int .i64 u) ∧ Sc w' rb t p ex f' ∧ Kp w w' rb ∧ (f'.toList.isEmpty = true → ff.toList.isEmpty = true ∧ u = v ∧ lo ≤ v ∧ v ≤ hi)

theorem part_calls (rb : Nat) (t : ByteArray) (p : Nat) (ex : Bool) (ff : ByteArray) (name : ByteArray) (width lo hi v : Int) (w : World) (h : Sc w rb t p ex ff) (hlo : 0 ≤ lo) :
    Calls Ybad.prog 6 #[.pointer (some ⟨rb, 0, none⟩), .string name, .int .i64 width, .int .i64 lo, .int .i64 hi, .int .i64 v] w fun e w' => PartPost w rb t p ex ff lo hi v e w' := by
  have HS := hid h
  obtain ⟨c0, c1, c2, c3, ⟨v4, c4⟩, z⟩ := h
  go_enter Ybad.func6, Ybad.ntmps6
  go_wp2_with (fail)
  go_cut [40] (fun x wc => ∃ b, x = .bool b ∧ ∃ n, wc = w.drewN n)
  case first =>
    cases ex with
    | false =>
      go_quiet (fail)
      go_wp2_with (fail)
      all_goals (go_meet; exact ⟨_, rfl, _, rfl⟩)
    | true =>
      by_cases hp : p < t.size
      · have hp2 : (p : Int) < t.size := by omega
        go_quiet (first | (go_at_call 11; exact Calls.quiet_of_same (digit_calls _ _)))
        go_wp2_with (fail)
        all_goals (go_meet; exact ⟨_, rfl, _, rfl⟩)
      · have hp2 : ¬ (p : Int) < t.size := by omega
        go_quiet (fail)
        go_wp2_with (fail)
        all_goals (go_meet; exact ⟨_, rfl, _, rfl⟩)
  case rest =>
    obtain ⟨b, rfl, n, rfl⟩ := hcut
    have hf2 : ({ data := #[37, 118] } : ByteArray).toList.isEmpty = false := by kernel_rfl
    have HF2 := hid hf2
    clear hf2
    cases b with
    | true =>
      have hlt : (-1 : Int) < lo := by omega
      go_wp2_with (fail)
      refine (fail_calls rb t p ex ff _ _ _ _ _ ((HS.out.drewN n).alloc _) HF2.out).mono ?_
      rintro e w2 ⟨rfl, f', hf', hS', hK'⟩
      have HR := hid (And.intro hf' (And.intro hS' hK'))
      clear hf' hS' hK'
      go_wp2_with (fail)
      go_ret
      exact ⟨_, f', rfl, HR.out.2.1, (((Kp.refl w rb).drewN n).alloc _).trans HR.out.2.2, fun hf => by rw [HR.out.1] at hf; cases hf⟩
    | false =>
      by_cases hlt : v < lo
      · go_wp2_with (fail)
        refine (fail_calls rb t p ex ff _ _ _ _ _ ((HS.out.drewN n).alloc _) HF2.out).mono ?_
        rintro e w2 ⟨rfl, f', hf', hS', hK'⟩
        have HR := hid (And.intro hf' (And.intro hS' hK'))
        clear hf' hS' hK'
        go_wp2_with (fail)
        go_ret
        exact ⟨_, f', rfl, HR.out.2.1, (((Kp.refl w rb).drewN n).alloc _).trans HR.out.2.2, fun hf => by rw [HR.out.1] at hf; cases hf⟩
      · by_cases hgt : hi < v
        · go_wp2_with (fail)
          refine (fail_calls rb t p ex ff _ _ _ _ _ ((HS.out.drewN n).alloc _) HF2.out).mono ?_
          rintro e w2 ⟨rfl, f', hf', hS', hK'⟩
          have HR := hid (And.intro hf' (And.intro hS' hK'))
          clear hf' hS' hK'
          go_wp2_with (fail)
          go_ret
          exact ⟨_, f', rfl, HR.out.2.1, (((Kp.refl w rb).drewN n).alloc _).trans HR.out.2.2, fun hf => by rw [HR.out.1] at hf; cases hf⟩
        · go_wp2_with (fail)
          go_ret
          exact ⟨v, ff, rfl, HS.out.drewN n, (Kp.refl w rb).drewN n, fun hf => ⟨hf, rfl, by omega, by omega⟩⟩

end Go.Proofs.YbulkcumwDoor
