/-
  holdfast.LawS4802CFinish: a list longer than 1024.
-/
import Derived.Test.YbulkcuksDoorBuild
namespace Go.Proofs.YbulkcuksDoor
open Go.RowKit

set_option maxRecDepth 100000 in
set_option maxHeartbeats 4000000 in
theorem law_finish_big (o0 o1 o2 o3 o4 o5 m0 m1 m2 m3 m4 m5 : Int) (a0 a1 a2 a3 : Option Addr) (n0 n1 n2 n3 k0 k1 k2 k3 : Nat) (w : World) (h : 1024 < n0 ∨ 1024 < n1 ∨ 1024 < n2 ∨ 1024 < n3) :
    Calls Ybad.prog 3 #[.agg #[.int .u64 o0, .int .u32 o1, .int .u32 o2, .int .u32 o3, .int .u32 o4, .int .i64 o5], .agg #[.int .u64 m0, .int .u32 m1, .int .u32 m2, .int .u32 m3, .int .u32 m4, .int .i64 m5], .slice a0 n0 k0, .slice a1 n1 k1, .slice a2 n2 k2, .slice a3 n3 k3] w fun e w' =>
      e = .returned (.bool true) ∧ Below w.heap.size w w' := by
  by_cases h0 : 1024 < n0
  · have h0' : (1024 : Int) < n0 := by omega
    clear h
    go_enter Ybad.func3, Ybad.ntmps3
    go_wp2_with fail
    go_ret
    exact ⟨rfl, ((Below.refl _ _).alloc (Nat.le_refl _) _).alloc (by simp) _⟩
  · have h0' : ¬ (1024 : Int) < n0 := by omega
    by_cases h1 : 1024 < n1
    · have h1' : (1024 : Int) < n1 := by omega
      clear h
      go_enter Ybad.func3, Ybad.ntmps3
      go_wp2_with fail
      go_ret
      exact ⟨rfl, ((Below.refl _ _).alloc (Nat.le_refl _) _).alloc (by simp) _⟩
    · have h1' : ¬ (1024 : Int) < n1 := by omega
      by_cases h2 : 1024 < n2
      · have h2' : (1024 : Int) < n2 := by omega
        clear h
        go_enter Ybad.func3, Ybad.ntmps3
        go_wp2_with fail
        go_ret
        exact ⟨rfl, ((Below.refl _ _).alloc (Nat.le_refl _) _).alloc (by simp) _⟩
      · have h2' : ¬ (1024 : Int) < n2 := by omega
        have h3' : (1024 : Int) < n3 := by omega
        clear h
        go_enter Ybad.func3, Ybad.ntmps3
        go_wp2_with fail
        go_ret
        exact ⟨rfl, ((Below.refl _ _).alloc (Nat.le_refl _) _).alloc (by simp) _⟩
end Go.Proofs.YbulkcuksDoor
