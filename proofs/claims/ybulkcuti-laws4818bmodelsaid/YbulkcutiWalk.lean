/-
  The walk of LawS4818BModel.
-/
import Derived.Test.YbulkcutiBuild
namespace Go.Proofs.Ybulkcuti
open Go.RowKit

theorem walk_out (a0 a1 : Option Addr) (n cap0 m cap1 : Nat) (a2 a3 : Int) (w : World) (h : n = 0 ∨ 1024 < n ∨ 1024 < m) :
    Calls Yba.prog 3 #[.slice a0 n cap0, .slice a1 m cap1, .int .u16 a2, .int .u16 a3] w fun e w' => e = .returned (.bool true) ∧ Below w.heap.size w w' := by
  by_cases h0 : n = 0
  · subst h0
    clear h
    go_enter Yba.func3, Yba.ntmps3
    go_wp2
    all_goals (go_ret; exact ⟨rfl, Below.refl _ _⟩)
  · have h1 : ((n : Int) == 0) = false := by rw [beq_eq_false_iff_ne]; omega
    by_cases h2 : 1024 < n
    · have h3 : (1024 : Int) < n := by omega
      clear h
      go_enter Yba.func3, Yba.ntmps3
      go_wp2
      all_goals (go_ret; exact ⟨rfl, Below.refl _ _⟩)
    · have h3 : ¬ (1024 : Int) < n := by omega
      have h4 : (1024 : Int) < m := by omega
      clear h
      go_enter Yba.func3, Yba.ntmps3
      go_wp2
      all_goals (go_ret; exact ⟨rfl, Below.refl _ _⟩)

theorem walk_in (x : Addr) (n cap0 : Nat) (T : Nat → Int) (a1 : Option Addr) (m cap1 : Nat) (Z : Nat → Int) (p q : Nat) (w : World) (hn0 : 0 < n) (hn : n ≤ 1024) (hm : m ≤ 1024) (hp : p < 65536) (hq : q < 65536) (hx : x.block < w.heap.size)
    (h0 : ∀ k, k < n → w.cell? (x.add k) = some (.int .i64 (T k))) (h1 : ∀ k, k < m → ∃ y, a1 = some y ∧ y.block < w.heap.size ∧ w.cell? (y.add k) = some (.int .i64 (Z k))) :
    Calls Yba.prog 3 #[.slice (some x) n cap0, .slice a1 m cap1, .int .u16 p, .int .u16 q] w fun e w' => e = .returned (.bool true) ∧ Below w.heap.size w w' := by
  have e1 : ((n : Int) == 0) = false := by rw [beq_eq_false_iff_ne]; omega
  have e2 : ¬ (1024 : Int) < n := by omega
  have e3 : ¬ (1024 : Int) < m := by omega
  have w1 : IntKind.i64.wrap (p : Int) = p := by rw [IntKind.wrap_i64]; omega
  have w2 : IntKind.i64.wrap (q : Int) = q := by rw [IntKind.wrap_i64]; omega
  have d1 : (p : Int) % (n : Int) = ((p % n : Nat) : Int) := (Int.natCast_emod p n).symm
  have d2 : (q : Int) % (n : Int) = ((q % n : Nat) : Int) := (Int.natCast_emod q n).symm
  have hpn : p % n < n := Nat.mod_lt _ hn0
  have hqn : q % n < n := Nat.mod_lt _ hn0
  have s1 : (n : Int) - 1 - ((p % n : Nat) : Int) = ((n - 1 - p % n : Nat) : Int) := by omega
  have s2 : (n : Int) - 1 - ((q % n : Nat) : Int) = ((n - 1 - q % n : Nat) : Int) := by omega
  have H0 := hid h0
  have H1 := hid h1
  have HX := hid hx
  have D1 := hid d1
  have D2 := hid d2
  have S1 := hid s1
  have S2 := hid s2
  clear h0 h1 hx d1 d2 s1 s2
  go_enter Yba.func3, Yba.ntmps3
  go_wp2_with (fail)
  refine (build_calls x n cap0 T a1 m cap1 Z w hn hm HX.out H0.out H1.out).mono ?_
  rintro e w2 ⟨hb, ob, rb, cb, rfl, hL⟩
  have HL := hid hL
  clear hL
  go_wp2_with (fail)
  rw [D1.out, D2.out]
  refine (less_calls w2 hb ob rb cb n T (tieOf m Z) HL.out.built (p % n) (q % n) hpn hqn).mono ?_
  rintro e w3 ⟨rfl, k3, rfl⟩
  go_wp2_with (fail)
  rw [D1.out, D2.out, S1.out, S2.out]
  have hbl := HL.out.below
  refine (model_calls x n cap0 T a1 m cap1 Z (n - 1 - p % n) (n - 1 - q % n) (w2.drewN k3) hm (by omega) (by omega) (fun k hk => ?_) (fun k hk => ?_)).mono ?_
  · exact (hbl.cell (p := x.add k) (by rw [add_block]; exact HX.out)).trans (H0.out k hk)
  · obtain ⟨y, e, hy, hc⟩ := H1.out k hk
    exact ⟨y, e, (hbl.cell (p := y.add k) (by rw [add_block]; exact hy)).trans hc⟩
  rintro e w4 ⟨rfl, k4, rfl⟩
  clear hbl
  go_wp2_with (fail)
  go_ret
  have hbl := HL.out.below
  exact ⟨rfl, hbl.os, hbl.tape, hbl.output, hbl.size, hbl.block⟩

end Go.Proofs.Ybulkcuti
