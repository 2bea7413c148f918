/-
  THE PLAIN MATHEMATICS of seat b6630206a: bits of a natural number; no Go in sight.
-/
namespace Go.Proofs.Qxb6630206a

/-- the first k bits of X are all as bit 0 -/
def same (X k : Nat) : Prop := ∀ i, i < k → X.testBit i = X.testBit 0

theorem same_mono {X j k : Nat} (h : same X k) (hjk : j ≤ k) : same X j := fun i hi => h i (by omega)
theorem same_zero (X : Nat) : same X 0 := fun _ hi => absurd hi (Nat.not_lt_zero _)
theorem same_one (X : Nat) : same X 1 := fun i hi => by obtain rfl : i = 0 := by omega
                                                        rfl
theorem same_succ {X k : Nat} (h : same X k) (hb : X.testBit k = X.testBit 0) : same X (k + 1) := fun i hi => by
  by_cases h' : i = k
  · subst h'; exact hb
  · exact h i (by omega)

theorem mod_iff (X j : Nat) : (X % 2 ^ j = 0 ∨ X % 2 ^ j = 2 ^ j - 1) ↔ same X j := by
  constructor
  · rintro (h | h) i hi
    · have e : ∀ i, i < j → X.testBit i = false := fun i hi => by
        have := Nat.testBit_mod_two_pow X j i
        rw [h] at this
        simpa [hi] using this.symm
      rw [e i hi, e 0 (by omega)]
    · have e : ∀ i, i < j → X.testBit i = true := fun i hi => by
        have := Nat.testBit_mod_two_pow X j i
        rw [h, Nat.testBit_two_pow_sub_one] at this
        simpa [hi] using this.symm
      rw [e i hi, e 0 (by omega)]
  · intro h
    cases hb : X.testBit 0 with
    | false =>
      left
      apply Nat.eq_of_testBit_eq
      intro i
      rw [Nat.testBit_mod_two_pow]
      by_cases hi : i < j
      · simp [hi, h i hi, hb]
      · simp [hi]
    | true =>
      right
      apply Nat.eq_of_testBit_eq
      intro i
      rw [Nat.testBit_mod_two_pow, Nat.testBit_two_pow_sub_one]
      by_cases hi : i < j
      · simp [hi, h i hi, hb]
      · simp [hi]

/-- nearEnd's answer -/
def near (X d : Nat) : Bool := decide (d ≤ 10) || (decide (X % 2 ^ (d - 10) = 0) || decide (X % 2 ^ (d - 10) = 2 ^ (d - 10) - 1))
theorem near_iff (X d : Nat) : near X d = true ↔ d ≤ 10 ∨ same X (d - 10) := by
  unfold near
  rw [Bool.or_eq_true, Bool.or_eq_true, decide_eq_true_iff, decide_eq_true_iff, decide_eq_true_iff, mod_iff]

/-- r is the length of the first run, at most 64 -/
structure Run (X r : Nat) : Prop where
  le : r ≤ 64
  same : same X r
  stop : r < 64 → X.testBit r ≠ X.testBit 0
theorem Run.iff {X r : Nat} (h : Run X r) {j : Nat} (hj : j ≤ 64) : Qxb6630206a.same X j ↔ j ≤ r := by
  constructor
  · intro hs
    rcases Nat.lt_or_ge r j with hr | hr
    · exact absurd (hs r hr) (h.stop (by omega))
    · exact hr
  · intro hr
    exact same_mono h.same hr

/-- the mirror -/
theorem same_not {X j : Nat} (hX : X < 2 ^ 64) (hj : j ≤ 64) : same (2 ^ 64 - (X + 1)) j ↔ same X j := by
  unfold same
  constructor
  · intro h i hi
    have := h i hi
    rw [Nat.testBit_two_pow_sub_succ hX, Nat.testBit_two_pow_sub_succ hX] at this
    have h1 : i < 64 := by omega
    simpa [h1] using this
  · intro h i hi
    rw [Nat.testBit_two_pow_sub_succ hX, Nat.testBit_two_pow_sub_succ hX, h i hi]
    have h1 : i < 64 := by omega
    simp [h1]

/-- the splice -/
theorem same_splice {X Y k : Nat} : same ((X &&& (2 ^ k - 1)) ||| (Y &&& (2 ^ 64 - 1 - (2 ^ k - 1)))) k ↔ same X k := by
  have e : ∀ i, i < k → ((X &&& (2 ^ k - 1)) ||| (Y &&& (2 ^ 64 - 1 - (2 ^ k - 1)))).testBit i = X.testBit i := by
    intro i hi
    rw [Nat.testBit_or, Nat.testBit_and, Nat.testBit_and, Nat.testBit_two_pow_sub_one]
    have hz : (2 ^ 64 - 1 - (2 ^ k - 1)).testBit i = false := by
      by_cases hk : k ≤ 64
      · have e1 : 2 ^ 64 - 1 - (2 ^ k - 1) = 2 ^ 64 - ((2 ^ k - 1) + 1) := by omega
        rw [e1, Nat.testBit_two_pow_sub_succ (by have : 2 ^ k ≤ 2 ^ 64 := Nat.pow_le_pow_right (by omega) hk; have : 0 < 2 ^ k := Nat.two_pow_pos k; omega), Nat.testBit_two_pow_sub_one]
        simp [hi]
      · have h1 : 2 ^ 64 ≤ 2 ^ k := Nat.pow_le_pow_right (by omega) (by omega)
        have e1 : 2 ^ 64 - 1 - (2 ^ k - 1) = 0 := by omega
        rw [e1]
        simp
    rw [hz]
    simp [hi]
  constructor
  · intro h i hi
    have := h i hi
    rwa [e i hi, e 0 (by omega)] at this
  · intro h i hi
    rw [e i hi, e 0 (by omega)]
    exact h i hi
end Go.Proofs.Qxb6630206a
