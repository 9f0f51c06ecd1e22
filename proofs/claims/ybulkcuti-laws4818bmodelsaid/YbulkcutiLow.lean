/-
  LawS4818BModel: the callees that only read (model, Less), the makes of build.
-/
import Derived.Test.YbulkcutiRows
import Derived.WalkKit
import Derived.WalkSpells
import Derived.WalkLawsBesides
import Derived.Below
import Derived.BigQuiet
import Derived.Deep.QuietTactic
import Derived.Deep.OwnRows
namespace Go.Proofs.Ybulkcuti
open Go.RowKit

theorem hid {p : Prop} (h : p) : Hid p := h

theorem add_block (a : Addr) (n : Nat) : (a.add n).block = a.block := by unfold Addr.add; split <;> rfl

/-- what Less and the model answer -/
def lessB (ti tj ei ej : Int) : Bool := if ti = tj then decide (ej < ei) else decide (tj < ti)

theorem lessB_gt {ti tj : Int} (ei ej : Int) (h : tj < ti) : lessB ti tj ei ej = true := by unfold lessB; rw [if_neg (by omega)]; exact decide_eq_true h
theorem lessB_lt {ti tj : Int} (ei ej : Int) (h : ti < tj) : lessB ti tj ei ej = false := by unfold lessB; rw [if_neg (by omega)]; exact decide_eq_false (by omega)
theorem lessB_eq {ti tj : Int} (ei ej : Int) (h : ti = tj) : lessB ti tj ei ej = decide (ej < ei) := by unfold lessB; rw [if_pos h]
theorem lessB_ne {ti tj : Int} (ei ej : Int) (h : ti ≠ tj) : lessB ti tj ei ej = decide (tj < ti) := by unfold lessB; rw [if_neg h]

/-- the tie of combatant k -/
def tieOf (m : Nat) (Z : Nat → Int) (k : Nat) : Int := if m = 0 then 0 else Z (k % m)

theorem tieOf_pos {m : Nat} (h : m ≠ 0) (Z : Nat → Int) (k : Nat) : tieOf m Z k = Z (k % m) := if_neg h

theorem model_calls (x : Addr) (n cap0 : Nat) (T : Nat → Int) (a1 : Option Addr) (m cap1 : Nat) (Z : Nat → Int) (i j : Nat) (w : World) (hm : m ≤ 1024) (hi : i < n) (hj : j < n)
    (h0 : ∀ k, k < n → w.cell? (x.add k) = some (.int .i64 (T k))) (h1 : ∀ k, k < m → ∃ y, a1 = some y ∧ w.cell? (y.add k) = some (.int .i64 (Z k))) :
    Calls Yba.prog 7 #[.slice (some x) n cap0, .slice a1 m cap1, .int .i64 i, .int .i64 j] w fun e w' => e = .returned (.bool (lessB (T i) (T j) (tieOf m Z i) (tieOf m Z j))) ∧ ∃ q, w' = w.drewN q := by
  have hci := h0 i hi
  have hcj := h0 j hj
  have hi2 : (i : Int) < n := by omega
  have hj2 : (j : Int) < n := by omega
  by_cases hm0 : m = 0
  · subst hm0
    clear h0 h1
    rcases Int.lt_trichotomy (T i) (T j) with hc | hc | hc
    · rw [lessB_lt _ _ hc]
      have hc' : ¬ T j < T i := by omega
      go_enter Yba.func7, Yba.ntmps7
      go_wp2_with (fail)
      go_quiet (fail)
      go_wp2_with (fail)
      all_goals (go_ret; exact ⟨rfl, _, rfl⟩)
    · rw [lessB_eq _ _ hc, show tieOf 0 Z i = 0 from rfl, show tieOf 0 Z j = 0 from rfl]
      rw [hc] at hci
      go_enter Yba.func7, Yba.ntmps7
      go_wp2_with (fail)
      go_quiet (fail)
      go_wp2_with (fail)
      all_goals (go_ret; exact ⟨rfl, _, rfl⟩)
    · rw [lessB_gt _ _ hc]
      go_enter Yba.func7, Yba.ntmps7
      go_wp2_with (fail)
      go_quiet (fail)
      go_wp2_with (fail)
      all_goals (go_ret; exact ⟨rfl, _, rfl⟩)
  · have hm1 : (0 : Int) < m := by omega
    obtain ⟨y, rfl, hti⟩ := h1 (i % m) (Nat.mod_lt _ (by omega))
    obtain ⟨y', e, htj⟩ := h1 (j % m) (Nat.mod_lt _ (by omega))
    obtain rfl := Option.some.inj e
    rw [tieOf_pos hm0, tieOf_pos hm0]
    have b1 : 0 ≤ (i : Int) % m := Int.emod_nonneg _ (by omega)
    have b2 : (i : Int) % m < m := Int.emod_lt_of_pos _ hm1
    have b3 : 0 ≤ (j : Int) % m := Int.emod_nonneg _ (by omega)
    have b4 : (j : Int) % m < m := Int.emod_lt_of_pos _ hm1
    clear h0 h1 e
    rcases Int.lt_trichotomy (T i) (T j) with hc | hc | hc
    · rw [lessB_lt _ _ hc]
      have hc' : ¬ T j < T i := by omega
      go_enter Yba.func7, Yba.ntmps7
      go_wp2_with (fail)
      go_quiet (fail)
      go_wp2_with (fail)
      all_goals (go_ret; exact ⟨rfl, _, rfl⟩)
    · rw [lessB_eq _ _ hc]
      rw [hc] at hci
      go_enter Yba.func7, Yba.ntmps7
      go_wp2_with (fail)
      go_quiet (fail)
      go_wp2_with (fail)
      all_goals (go_ret; exact ⟨rfl, _, rfl⟩)
    · rw [lessB_gt _ _ hc]
      go_enter Yba.func7, Yba.ntmps7
      go_wp2_with (fail)
      go_quiet (fail)
      go_wp2_with (fail)
      all_goals (go_ret; exact ⟨rfl, _, rfl⟩)

/-- The initiative order that build lays, at hb: its three rows. -/
structure Built (w : World) (hb ob rb cb n : Nat) (T E : Nat → Int) : Prop where
  c0 : w.cell? ⟨hb, 0, none⟩ = some (.slice (some ⟨ob, 0, none⟩) n n)
  c1 : w.cell? ⟨hb, 1, none⟩ = some (.slice (some ⟨rb, 0, none⟩) n n)
  c2 : w.cell? ⟨hb, 2, none⟩ = some (.slice (some ⟨cb, 0, none⟩) n n)
  ord : ∀ k, k < n → w.cell? ⟨ob, k, none⟩ = some (.int .i64 ((n - 1 - k : Nat) : Int))
  tot : ∀ k, k < n → w.cell? ⟨rb, k * 5 + 4, none⟩ = some (.int .i64 (T k))
  tie : ∀ k, k < n → w.cell? ⟨cb, k * 6 + 5, none⟩ = some (.int .i64 (E k))

theorem less_calls (w : World) (hb ob rb cb n : Nat) (T E : Nat → Int) (hB : Built w hb ob rb cb n T E) (x y : Nat) (hx : x < n) (hy : y < n) :
    Calls Yba.prog 6 #[.pointer (some ⟨hb, 0, none⟩), .int .i64 x, .int .i64 y] w fun e w' => e = .returned (.bool (lessB (T (n - 1 - x)) (T (n - 1 - y)) (E (n - 1 - x)) (E (n - 1 - y)))) ∧ ∃ q, w' = w.drewN q := by
  obtain ⟨c0, c1, c2, ho, ht, he⟩ := hB
  have hox := ho x hx
  have hoy := ho y hy
  obtain ⟨i, hi⟩ : ∃ i, i = n - 1 - x := ⟨_, rfl⟩
  obtain ⟨j, hj⟩ : ∃ j, j = n - 1 - y := ⟨_, rfl⟩
  rw [← hi] at hox ⊢
  rw [← hj] at hoy ⊢
  have hin : i < n := by omega
  have hjn : j < n := by omega
  have h1 := ht i hin
  have h2 := ht j hjn
  have h3 := he i hin
  have h4 := he j hjn
  have hx2 : (x : Int) < n := by omega
  have hy2 : (y : Int) < n := by omega
  have hi2 : (i : Int) < n := by omega
  have hj2 : (j : Int) < n := by omega
  clear ho ht he hi hj hx hy hin hjn
  by_cases hc : T i = T j
  · rw [lessB_eq _ _ hc]
    rw [hc] at h1
    go_enter Yba.func6, Yba.ntmps6
    go_wp2_with (fail)
    go_quiet (fail)
    go_wp2_with (fail)
    go_quiet (fail)
    go_wp2_with (fail)
    go_quiet (fail)
    go_wp2_with (fail)
    all_goals (go_ret; exact ⟨rfl, _, by simp only [World.drewN_drewN]; rfl⟩)
  · rw [lessB_ne _ _ hc]
    have hc' : (T i == T j) = false := by rw [beq_eq_false_iff_ne]; exact hc
    go_enter Yba.func6, Yba.ntmps6
    go_wp2_with (fail)
    go_quiet (fail)
    go_wp2_with (fail)
    go_quiet (fail)
    go_wp2_with (fail)
    go_quiet (fail)
    go_wp2_with (fail)
    all_goals (go_ret; exact ⟨rfl, _, by simp only [World.drewN_drewN]; rfl⟩)

end Go.Proofs.Ybulkcuti
