/-
  THE PLAIN SIDE: a bitset is (f, ws): word j of the pages is ws[j - f], 0 outside. No Go here.
-/
import Derived.Laws.Bits64b
namespace Go.Proofs.Ybulkcuks

/-- word i of a bitset -/
def wordAt (f : Nat) (ws : List Nat) (i : Nat) : Nat := if f ≤ i then ws.getD (i - f) 0 else 0

/-- is page id in it -/
def memB (f : Nat) (ws : List Nat) (id : Nat) : Bool := (wordAt f ws (id / 64)).testBit (id % 64)

/-- cover(i, i+1): the new first word's number -/
def covF (f : Nat) (ws : List Nat) (i : Nat) : Nat := if ws.length = 0 then i else if i < f then min i (f - ws.length) else f
/-- .. and the new words -/
def covW (f : Nat) (ws : List Nat) (i : Nat) : List Nat :=
  if ws.length = 0 then [0] else if i < f then List.replicate (f - min i (f - ws.length)) 0 ++ ws else ws ++ List.replicate (i + 1 - (f + ws.length)) 0

theorem covF_nil (f i : Nat) (ws : List Nat) (h : ws.length = 0) : covF f ws i = i := by simp [covF, h]
theorem covW_nil (f i : Nat) (ws : List Nat) (h : ws.length = 0) : covW f ws i = [0] := by simp [covW, h]
theorem covF_down (f i : Nat) (ws : List Nat) (h : 0 < ws.length) (hi : i < f) : covF f ws i = min i (f - ws.length) := by simp [covF, hi]; intro e; subst e; simp at h
theorem covW_down (f i : Nat) (ws : List Nat) (h : 0 < ws.length) (hi : i < f) : covW f ws i = List.replicate (f - min i (f - ws.length)) 0 ++ ws := by
  simp [covW, hi]; intro e; subst e; simp at h
theorem covF_up (f i : Nat) (ws : List Nat) (h : 0 < ws.length) (hi : f ≤ i) : covF f ws i = f := by
  have : ¬ i < f := by omega
  simp [covF, this]; intro e; subst e; simp at h
theorem covW_up (f i : Nat) (ws : List Nat) (h : 0 < ws.length) (hi : f ≤ i) : covW f ws i = ws ++ List.replicate (i + 1 - (f + ws.length)) 0 := by
  have : ¬ i < f := by omega
  simp [covW, this]; intro e; subst e; simp at h

theorem cov_in (f i : Nat) (ws : List Nat) : covF f ws i ≤ i ∧ i < covF f ws i + (covW f ws i).length := by
  by_cases h : ws.length = 0
  · rw [covF_nil _ _ _ h, covW_nil _ _ _ h]; simp
  · by_cases hi : i < f
    · rw [covF_down _ _ _ (by omega) hi, covW_down _ _ _ (by omega) hi]
      simp only [List.length_append, List.length_replicate]; omega
    · rw [covF_up _ _ _ (by omega) (by omega), covW_up _ _ _ (by omega) (by omega)]
      simp only [List.length_append, List.length_replicate]; omega

theorem cov_bd (f i m : Nat) (ws : List Nat) (h1 : f + ws.length ≤ m) (h2 : i < m) : covF f ws i + (covW f ws i).length ≤ m := by
  by_cases h : ws.length = 0
  · rw [covF_nil _ _ _ h, covW_nil _ _ _ h]; simp; omega
  · by_cases hi : i < f
    · rw [covF_down _ _ _ (by omega) hi, covW_down _ _ _ (by omega) hi]
      simp only [List.length_append, List.length_replicate]; omega
    · rw [covF_up _ _ _ (by omega) (by omega), covW_up _ _ _ (by omega) (by omega)]
      simp only [List.length_append, List.length_replicate]; omega

theorem cov_lt (f i : Nat) (ws : List Nat) (h : ∀ x ∈ ws, x < 18446744073709551616) : ∀ x ∈ covW f ws i, x < 18446744073709551616 := by
  intro x hx
  unfold covW at hx
  split at hx
  · simp at hx; omega
  · split at hx
    · simp only [List.mem_append, List.mem_replicate] at hx
      rcases hx with ⟨_, rfl⟩ | hx
      · decide
      · exact h x hx
    · simp only [List.mem_append, List.mem_replicate] at hx
      rcases hx with hx | ⟨_, rfl⟩
      · exact h x hx
      · decide

theorem getD_replicate_zero (n j : Nat) : (List.replicate n 0).getD j 0 = 0 := by
  simp only [List.getD_eq_getElem?_getD, List.getElem?_replicate]; split <;> rfl

theorem getD_append (a b : List Nat) (j : Nat) : (a ++ b).getD j 0 = if j < a.length then a.getD j 0 else b.getD (j - a.length) 0 := by
  simp only [List.getD_eq_getElem?_getD, List.getElem?_append]; split <;> rfl

theorem getD_out (a : List Nat) (j : Nat) (h : a.length ≤ j) : a.getD j 0 = 0 := by
  simp only [List.getD_eq_getElem?_getD]; rw [List.getElem?_eq_none h]; rfl

theorem word_cov (f i j : Nat) (ws : List Nat) : wordAt (covF f ws i) (covW f ws i) j = wordAt f ws j := by
  by_cases h : ws.length = 0
  · rw [covF_nil _ _ _ h, covW_nil _ _ _ h]
    unfold wordAt
    rw [getD_out ws _ (by omega)]
    have : ([0] : List Nat).getD (j - i) 0 = 0 := getD_replicate_zero 1 (j - i)
    rw [this]; split <;> split <;> rfl
  · by_cases hi : i < f
    · rw [covF_down _ _ _ (by omega) hi, covW_down _ _ _ (by omega) hi]
      unfold wordAt
      rw [getD_append, getD_replicate_zero, List.length_replicate]
      by_cases h1 : f ≤ j
      · rw [if_pos (by omega), if_neg (by omega), if_pos h1]
        congr 1; omega
      · rw [if_neg h1]
        by_cases h2 : min i (f - ws.length) ≤ j
        · rw [if_pos h2, if_pos (by omega)]
        · rw [if_neg h2]
    · rw [covF_up _ _ _ (by omega) (by omega), covW_up _ _ _ (by omega) (by omega)]
      unfold wordAt
      rw [getD_append, getD_replicate_zero]
      by_cases h1 : f ≤ j
      · rw [if_pos h1, if_pos h1]
        split
        · rfl
        · rw [getD_out ws _ (by omega)]
      · rw [if_neg h1, if_neg h1]

/-- set(id): the words behind it -/
def setW (f : Nat) (ws : List Nat) (id : Nat) : List Nat :=
  (covW f ws (id / 64)).set (id / 64 - covF f ws (id / 64)) ((covW f ws (id / 64)).getD (id / 64 - covF f ws (id / 64)) 0 ||| 2 ^ (id % 64))

theorem setW_length (f id : Nat) (ws : List Nat) : (setW f ws id).length = (covW f ws (id / 64)).length := by simp [setW]

theorem pow_lt (id : Nat) : 2 ^ (id % 64) < 18446744073709551616 := by
  have h : id % 64 < 64 := Nat.mod_lt _ (by decide)
  exact Nat.pow_lt_pow_of_lt (a := 2) (by decide) h

theorem getD_lt (ws : List Nat) (h : ∀ x ∈ ws, x < 18446744073709551616) (j : Nat) : ws.getD j 0 < 18446744073709551616 := by
  simp only [List.getD_eq_getElem?_getD]
  cases hj : ws[j]? with
  | none => decide
  | some x => exact h x (List.mem_of_getElem? hj)

theorem or_lt (a b : Nat) (ha : a < 18446744073709551616) (hb : b < 18446744073709551616) : a ||| b < 18446744073709551616 :=
  Nat.or_lt_two_pow (n := 64) ha hb

theorem setW_lt (f id : Nat) (ws : List Nat) (h : ∀ x ∈ ws, x < 18446744073709551616) : ∀ x ∈ setW f ws id, x < 18446744073709551616 := by
  intro x hx
  have hc := cov_lt f (id / 64) ws h
  rcases List.mem_or_eq_of_mem_set hx with hx | rfl
  · exact hc x hx
  · exact or_lt _ _ (getD_lt _ hc _) (pow_lt id)

theorem word_set (f id j : Nat) (ws : List Nat) : wordAt (covF f ws (id / 64)) (setW f ws id) j = if j = id / 64 then wordAt f ws j ||| 2 ^ (id % 64) else wordAt f ws j := by
  have hin := cov_in f (id / 64) ws
  by_cases hj : j = id / 64
  · subst hj
    rw [if_pos rfl, ← word_cov f (id / 64) (id / 64) ws]
    unfold wordAt setW
    rw [if_pos hin.1]
    simp only [List.getD_eq_getElem?_getD]
    rw [List.getElem?_set_self (by omega)]
    simp only [Option.getD_some]
    rw [if_pos hin.1]
  · rw [if_neg hj, ← word_cov f (id / 64) j ws]
    unfold wordAt setW
    by_cases h1 : covF f ws (id / 64) ≤ j
    · rw [if_pos h1, if_pos h1]
      simp only [List.getD_eq_getElem?_getD]
      rw [List.getElem?_set_ne (by omega)]
    · rw [if_neg h1, if_neg h1]

theorem mem_set (f id x : Nat) (ws : List Nat) : memB (covF f ws (id / 64)) (setW f ws id) x = (memB f ws x || decide (x = id)) := by
  unfold memB
  rw [word_set]
  by_cases h : x / 64 = id / 64
  · rw [if_pos h, Nat.testBit_or, Nat.testBit_two_pow]
    congr 1
    rw [Bool.eq_iff_iff]; simp only [decide_eq_true_eq]; omega
  · rw [if_neg h]
    have : x ≠ id := fun e => h (by rw [e])
    simp [this]

theorem mem_nil (f x : Nat) : memB f [] x = false := by
  unfold memB wordAt
  split <;> simp

/-- A test by a mask. -/
theorem mask_test (x k : Nat) (hx : x < 18446744073709551616) (hk : k < 64) : (bits .and .u64 (x : Int) (IntKind.u64.wrap (2 ^ k)) != 0) = x.testBit k := by
  have hp : 2 ^ k < 18446744073709551616 := Nat.pow_lt_pow_of_lt (a := 2) (by decide) hk
  have e : IntKind.u64.wrap (2 ^ k) = ((2 ^ k : Nat) : Int) := by
    have e2 : ((2 : Int) ^ k) = ((2 ^ k : Nat) : Int) := by simp
    rw [e2, IntKind.wrap_u64]
    generalize 2 ^ k = q at hp
    omega
  rw [e, bits_and_u64_nat x _ hx hp]
  by_cases h : x.testBit k = true
  · rw [h]
    have : x &&& 2 ^ k ≠ 0 := fun e0 => by
      have := congrArg (fun n => n.testBit k) e0
      simp [Nat.testBit_and, h] at this
    rw [bne_iff_ne]; omega
  · have hf : x.testBit k = false := by simpa using h
    rw [hf]
    have : x &&& 2 ^ k = 0 := by
      apply Nat.eq_of_testBit_eq
      intro i
      rw [Nat.testBit_and, Nat.testBit_two_pow]
      by_cases hi : k = i
      · subst hi; simp [hf]
      · simp [hi]
    rw [this]; rfl

/-- .. set by a mask. -/
theorem mask_or (x k : Nat) (hx : x < 18446744073709551616) (hk : k < 64) : bits .or .u64 (x : Int) (IntKind.u64.wrap (2 ^ k)) = ((x ||| 2 ^ k : Nat) : Int) := by
  have hp : 2 ^ k < 18446744073709551616 := Nat.pow_lt_pow_of_lt (a := 2) (by decide) hk
  have e : IntKind.u64.wrap (2 ^ k) = ((2 ^ k : Nat) : Int) := by
    have e2 : ((2 : Int) ^ k) = ((2 ^ k : Nat) : Int) := by simp
    rw [e2, IntKind.wrap_u64]
    generalize 2 ^ k = q at hp
    omega
  rw [e, bits_or_u64_nat x _ hx hp]

/-- A test by a shift. -/
theorem shift_test (x k : Nat) (hx : x < 18446744073709551616) : (bits .and .u64 ((x : Int) / 2 ^ k) 1 == 1) = x.testBit k := by
  have e : ((x : Int) / 2 ^ k) = ((x / 2 ^ k : Nat) : Int) := by simp
  have hd : x / 2 ^ k < 18446744073709551616 := Nat.lt_of_le_of_lt (Nat.div_le_self _ _) hx
  rw [e, show (1 : Int) = ((1 : Nat) : Int) from rfl, bits_and_u64_nat _ _ hd (by decide), Nat.and_one_is_mod, Nat.testBit_eq_decide_div_mod_eq]
  rw [Bool.eq_iff_iff]; simp only [beq_iff_eq, decide_eq_true_eq]; omega

theorem wordAt_lt (f : Nat) (ws : List Nat) (i : Nat) (h : ∀ x ∈ ws, x < 18446744073709551616) : wordAt f ws i < 18446744073709551616 := by
  unfold wordAt
  split
  · exact getD_lt ws h _
  · decide

/-- how many of the first m numbers are in it -/
def countTo (M : Nat → Bool) : Nat → Nat
  | 0 => 0
  | m + 1 => countTo M m + if M m then 1 else 0

theorem countTo_le (M : Nat → Bool) : ∀ m, countTo M m ≤ m
  | 0 => Nat.le_refl _
  | m + 1 => by have := countTo_le M m; simp only [countTo]; split <;> omega

/-- one more member -/
def plus (M : Nat → Bool) (id : Nat) : Nat → Bool := fun x => M x || decide (x = id)

theorem countTo_congr (M N : Nat → Bool) : ∀ m, (∀ x, x < m → M x = N x) → countTo M m = countTo N m
  | 0, _ => rfl
  | m + 1, h => by simp only [countTo]; rw [countTo_congr M N m (fun x hx => h x (by omega)), h m (by omega)]

theorem countTo_plus (M : Nat → Bool) (id : Nat) : ∀ m, id < m → countTo (plus M id) m = countTo M m + if M id then 0 else 1
  | 0, h => by omega
  | m + 1, h => by
    simp only [countTo]
    by_cases e : m = id
    · subst e
      rw [countTo_congr (plus M m) M m (fun x hx => by have : x ≠ m := by omega
                                                       simp [plus, this])]
      simp only [plus, decide_true, Bool.or_true, if_true]
      cases M m <;> simp
    · rw [countTo_plus M id m (by omega)]
      have : plus M id m = M m := by simp [plus, e]
      rw [this]; omega

theorem plus_of_mem (M : Nat → Bool) (id : Nat) (h : M id = true) : plus M id = M := by
  funext x
  unfold plus
  by_cases e : x = id
  · subst e; simp [h]
  · simp [e]

/-- the set with the pages of a list added -/
def adds (M : Nat → Bool) (xs : List Nat) : Nat → Bool := fun x => M x || decide (x ∈ xs)

theorem adds_nil (M : Nat → Bool) : adds M [] = M := by funext x; simp [adds]

theorem adds_snoc (M : Nat → Bool) (xs : List Nat) (y : Nat) : adds M (xs ++ [y]) = plus (adds M xs) y := by
  funext x
  simp [adds, plus, Bool.or_assoc]

end Go.Proofs.Ybulkcuks
