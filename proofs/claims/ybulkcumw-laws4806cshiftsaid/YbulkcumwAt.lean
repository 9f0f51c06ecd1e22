/-
  scanner.at: the byte i ahead of the place, 0 from the end on.
-/
import Derived.Test.YbulkcumwRows
import Derived.WalkKit
import Derived.WalkSpells
import Derived.WalkLawsBesides
import Derived.Below
import Derived.BigQuiet
import Derived.Deep.QuietTactic
namespace Go.Proofs.Ybulkcumw
open Go.RowKit

theorem hid {p : Prop} (h : p) : Hid p := h

/-- the byte at place m of the text, 0 from its end on -/
def byteAt (b : ByteArray) (m : Nat) : Int := if h : m < b.size then b[m].toNat else 0

theorem at_calls (sb : Nat) (t : ByteArray) (p k : Int) (w : World) (h0 : w.cell? ⟨sb, 0, none⟩ = some (.string t)) (h1 : w.cell? ⟨sb, 1, none⟩ = some (.int .i64 p)) (hp : 0 ≤ p) (hpk : 0 ≤ p + k) (hk : k ≤ 65536) (hp2 : p ≤ 65536) :
    Calls Yba.prog 5 #[.pointer (some ⟨sb, 0, none⟩), .int .i64 k] w fun e w' => e = .returned (.int .u8 (byteAt t (p + k).toNat)) ∧ ∃ n, w' = w.drewN n := by
  have hw : IntKind.i64.wrap (p + k) = p + k := by rw [IntKind.wrap_i64]; omega
  by_cases hl : p + k < (t.size : Int)
  · have hl2 : ¬ (t.size : Int) ≤ p + k := by omega
    go_enter Yba.func5, Yba.ntmps5
    go_wp2_with (fail)
    go_quiet (fail)
    go_wp2_with (fail)
    go_quiet (fail)
    go_wp2_with (fail)
    go_ret
    refine ⟨?_, _, by rw [World.drewN_drewN]⟩
    unfold byteAt
    rw [dif_pos (by omega)]
    rfl
  · have hl2 : (t.size : Int) ≤ p + k := by omega
    go_enter Yba.func5, Yba.ntmps5
    go_wp2_with (fail)
    go_quiet (fail)
    go_wp2_with (fail)
    go_ret
    refine ⟨?_, _, rfl⟩
    unfold byteAt
    rw [dif_neg (by omega)]
    rfl

end Go.Proofs.Ybulkcumw
