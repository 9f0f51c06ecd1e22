/-
  The lowest bit of a word: w & (w-1) strikes it. No Go here.
-/
import Derived.Test.YbulkcuksDoorPlain
import Derived.Lib.TrailingZeros
namespace Go.Proofs.YbulkcuksDoor

theorem low_form (u : Nat) (h0 : u ≠ 0) (h : u < 18446744073709551616) : ∃ m, u = 2 ^ (Lib.ctz 64 u + 1) * m + 2 ^ Lib.ctz 64 u ∧ Lib.ctz 64 u < 64 := by
  obtain ⟨m, hm, hc⟩ := Lib.ctzFrom_spec 64 u (by omega) h
  have e : Lib.ctz 64 u = Lib.ctzFrom 64 u := by simp [Lib.ctz, h0]
  rw [e]
  refine ⟨m, ?_, hc⟩
  generalize Lib.ctzFrom 64 u = c at *
  rw [hm, Nat.pow_succ, Nat.mul_add, Nat.mul_one, Nat.mul_assoc]

theorem low_bit (u : Nat) (h0 : u ≠ 0) (h : u < 18446744073709551616) : Lib.ctz 64 u < 64 ∧ u.testBit (Lib.ctz 64 u) = true ∧ (∀ j, j < Lib.ctz 64 u → u.testBit j = false) ∧ ∀ j, (u &&& (u - 1)).testBit j = (u.testBit j && decide (j ≠ Lib.ctz 64 u)) := by
  obtain ⟨m, hm, hc⟩ := low_form u h0 h
  generalize Lib.ctz 64 u = c at *
  have hp : 2 ^ c < 2 ^ (c + 1) := Nat.pow_lt_pow_of_lt (by decide) (by omega)
  have hpos : 0 < 2 ^ c := Nat.two_pow_pos c
  have h1 : ∀ j, u.testBit j = if j < c + 1 then (2 ^ c).testBit j else m.testBit (j - (c + 1)) := fun j => by
    rw [hm]; exact Nat.testBit_two_pow_mul_add m hp j
  have h2 : ∀ j, (u - 1).testBit j = if j < c + 1 then (2 ^ c - 1).testBit j else m.testBit (j - (c + 1)) := fun j => by
    rw [hm, show 2 ^ (c + 1) * m + 2 ^ c - 1 = 2 ^ (c + 1) * m + (2 ^ c - 1) by omega]
    exact Nat.testBit_two_pow_mul_add m (by omega) j
  refine ⟨hc, ?_, ?_, ?_⟩
  · rw [h1, if_pos (by omega)]; simp
  · intro j hj
    rw [h1, if_pos (by omega), Nat.testBit_two_pow]; simp; omega
  · intro j
    rw [Nat.testBit_and, h1, h2]
    by_cases hj : j < c + 1
    · rw [if_pos hj, if_pos hj, Nat.testBit_two_pow, Nat.testBit_two_pow_sub_one]
      by_cases e : c = j
      · subst e; simp
      · simp [e]
    · rw [if_neg hj, if_neg hj]
      have : j ≠ c := by omega
      simp [this]

theorem low_lt (u : Nat) (h0 : u ≠ 0) : u &&& (u - 1) < u := by
  have := @Nat.and_le_right u (u - 1); omega

theorem and_u64 (u : Nat) (h0 : u ≠ 0) (h : u < 18446744073709551616) : bits .and .u64 (u : Int) ((u : Int) - 1) = ((u &&& (u - 1) : Nat) : Int) := by
  rw [show ((u : Int) - 1) = ((u - 1 : Nat) : Int) by omega]
  exact bits_and_u64_nat u (u - 1) h (by omega)

/-- Some bit of a word that is not 0, none of whose first r bits is set: r < 64. -/
theorem low_room (u r : Nat) (h0 : u ≠ 0) (h : u < 18446744073709551616) (hr : ∀ j, j < r → u.testBit j = false) : r ≤ Lib.ctz 64 u ∧ r < 64 := by
  obtain ⟨hc, hb, _⟩ := low_bit u h0 h
  have : r ≤ Lib.ctz 64 u := by
    by_cases q : r ≤ Lib.ctz 64 u
    · exact q
    · have := hr (Lib.ctz 64 u) (by omega); rw [hb] at this; cases this
  exact ⟨this, by omega⟩

/-- A page number of the law's span. -/
abbrev Pg := { x : Nat // x < 4096 }

theorem mem_range (f : Nat) (ws : List Nat) (y : Nat) (h : memB f ws y = true) : f ≤ y / 64 ∧ y / 64 < f + ws.length := by
  unfold memB wordAt at h
  by_cases h1 : f ≤ y / 64
  · refine ⟨h1, ?_⟩
    by_cases h2 : y / 64 < f + ws.length
    · exact h2
    · rw [if_pos h1, getD_out ws _ (by omega)] at h; simp at h
  · rw [if_neg h1] at h; simp at h

theorem wordAt_in (f k : Nat) (ws : List Nat) : wordAt f ws (f + k) = ws.getD k 0 := by
  unfold wordAt; rw [if_pos (by omega), show f + k - f = k by omega]

/-- The pages that have come: those of the words before k, and those of word k that q no longer holds. -/
def Come (f : Nat) (ws : List Nat) (k q : Nat) (pre : List Pg) : Prop := ∀ y, (∃ x ∈ pre, x.1 = y) ↔ (memB f ws y = true ∧ (y / 64 < f + k ∨ (y / 64 = f + k ∧ q.testBit (y % 64) = false)))
/-- .. those of the words before k. -/
def ComeTo (f : Nat) (ws : List Nat) (k : Nat) (pre : List Pg) : Prop := ∀ y, (∃ x ∈ pre, x.1 = y) ↔ (memB f ws y = true ∧ y / 64 < f + k)
/-- All of them. -/
def AllOf (f : Nat) (ws : List Nat) (xs : List Pg) : Prop := ∀ y, (∃ x ∈ xs, x.1 = y) ↔ memB f ws y = true

theorem come_nil (f : Nat) (ws : List Nat) : ComeTo f ws 0 [] := fun y => by
  constructor
  · rintro ⟨x, hx, _⟩; cases hx
  · rintro ⟨hm, hy⟩; have := mem_range f ws y hm; omega

theorem come_all (f : Nat) (ws : List Nat) (pre : List Pg) (h : ComeTo f ws ws.length pre) : AllOf f ws pre := fun y => by
  rw [h y]
  constructor
  · exact fun h => h.1
  · exact fun h => ⟨h, (mem_range f ws y h).2⟩

theorem come_in (f : Nat) (ws : List Nat) (k : Nat) (pre : List Pg) (h : ComeTo f ws k pre) : Come f ws k (ws.getD k 0) pre := fun y => by
  rw [h y]
  constructor
  · exact fun h => ⟨h.1, .inl h.2⟩
  · rintro ⟨hm, h1 | ⟨h1, h2⟩⟩
    · exact ⟨hm, h1⟩
    · unfold memB at hm
      rw [h1, wordAt_in, h2] at hm
      cases hm

theorem come_out (f : Nat) (ws : List Nat) (k : Nat) (pre : List Pg) (h : Come f ws k 0 pre) : ComeTo f ws (k + 1) pre := fun y => by
  rw [h y]
  constructor
  · rintro ⟨hm, h1 | ⟨h1, _⟩⟩
    · exact ⟨hm, by omega⟩
    · exact ⟨hm, by omega⟩
  · rintro ⟨hm, h1⟩
    refine ⟨hm, ?_⟩
    by_cases h2 : y / 64 < f + k
    · exact .inl h2
    · exact .inr ⟨by omega, by simp⟩

theorem come_step (f : Nat) (ws : List Nat) (k q : Nat) (pre : List Pg) (x : Pg) (h : Come f ws k q pre) (h0 : q ≠ 0) (hq : q < 18446744073709551616) (hsub : ∀ j, q.testBit j = true → (ws.getD k 0).testBit j = true) (hx : x.1 = (f + k) * 64 + Lib.ctz 64 q) :
    Come f ws k (q &&& (q - 1)) (pre ++ [x]) := fun y => by
  obtain ⟨hc, hb, _, hn⟩ := low_bit q h0 hq
  rw [hn]
  have hmem : (∃ z ∈ pre ++ [x], z.1 = y) ↔ ((∃ z ∈ pre, z.1 = y) ∨ y = x.1) := by
    constructor
    · rintro ⟨z, hz, rfl⟩
      rcases List.mem_append.1 hz with hz | hz
      · exact .inl ⟨z, hz, rfl⟩
      · right; rw [List.mem_singleton.1 hz]
    · rintro (⟨z, hz, rfl⟩ | rfl)
      · exact ⟨z, List.mem_append_left _ hz, rfl⟩
      · exact ⟨x, by simp, rfl⟩
  rw [hmem, h y]
  generalize hcc : Lib.ctz 64 q = c at *
  by_cases e : y = x.1
  · have h1 : y / 64 = f + k := by rw [e, hx]; omega
    have h2 : y % 64 = c := by rw [e, hx]; omega
    have hm : memB f ws y = true := by unfold memB; rw [h1, h2, wordAt_in]; exact hsub c hb
    constructor
    · intro _; exact ⟨hm, .inr ⟨h1, by rw [h2]; simp⟩⟩
    · intro _; exact .inr e
  · constructor
    · rintro (⟨hm, h1 | ⟨h1, h2⟩⟩ | h3)
      · exact ⟨hm, .inl h1⟩
      · exact ⟨hm, .inr ⟨h1, by rw [h2]; rfl⟩⟩
      · exact absurd h3 e
    · rintro ⟨hm, h1 | ⟨h1, h2⟩⟩
      · exact .inl ⟨hm, .inl h1⟩
      · left
        refine ⟨hm, .inr ⟨h1, ?_⟩⟩
        have h3 : y % 64 ≠ c := by intro h3; apply e; rw [hx]; omega
        simpa [h3] using h2

end Go.Proofs.YbulkcuksDoor
