import Derived.Test.Qxb6630072aPlain
namespace Go.Proofs.Qxb6630072a

/-- the numbers F with x put in at place i -/
def put (F : Nat → Int) (i : Nat) (x : Int) (j : Nat) : Int := if j < i then F j else if j = i then x else F (j - 1)
theorem put_lt {F : Nat → Int} {i : Nat} {x : Int} {j : Nat} (h : j < i) : put F i x j = F j := by unfold put; rw [if_pos h]
theorem put_eq (F : Nat → Int) (i : Nat) (x : Int) : put F i x i = x := by unfold put; rw [if_neg (by omega), if_pos rfl]
theorem put_succ {F : Nat → Int} {i : Nat} {x : Int} {j : Nat} (h : i ≤ j) : put F i x (j + 1) = F j := by
  unfold put; rw [if_neg (by omega), if_neg (by omega)]; rfl

theorem hit_put (d : Int) (F T : Nat → Int) (n i : Nat) (hi : i ≤ n) (a b : Int) : hit d (put F i a) (put T i b) (n + 1) = (hit d F T n || decide (a ≤ d ∧ d ≤ b)) := by
  rw [Bool.eq_iff_iff, Bool.or_eq_true, hit_iff, hit_iff, decide_eq_true_iff]
  constructor
  · rintro ⟨j, hj, h1, h2⟩
    by_cases h : j < i
    · rw [put_lt h] at h1 h2
      exact .inl ⟨j, by omega, h1, h2⟩
    · by_cases h' : j = i
      · subst h'
        rw [put_eq] at h1 h2
        exact .inr ⟨h1, h2⟩
      · obtain ⟨m, rfl⟩ : ∃ m, j = m + 1 := ⟨j - 1, by omega⟩
        rw [put_succ (by omega)] at h1 h2
        exact .inl ⟨m, by omega, h1, h2⟩
  · rintro (⟨j, hj, h1, h2⟩ | ⟨h1, h2⟩)
    · by_cases h : j < i
      · exact ⟨j, by omega, by rw [put_lt h]; exact h1, by rw [put_lt h]; exact h2⟩
      · exact ⟨j + 1, by omega, by rw [put_succ (by omega)]; exact h1, by rw [put_succ (by omega)]; exact h2⟩
    · exact ⟨i, by omega, by rw [put_eq]; exact h1, by rw [put_eq]; exact h2⟩
end Go.Proofs.Qxb6630072a
