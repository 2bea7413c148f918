/-
  THE PLAIN MATHEMATICS of seat b6630072a: no Go in sight.
-/
namespace Go.Proofs.Qxb6630072a

/-- Some of the first n periods holds the day d. -/
def hit (d : Int) (F T : Nat → Int) (n : Nat) : Bool := (List.range n).any fun i => decide (F i ≤ d ∧ d ≤ T i)
/-- The fund is open on d: it states no closed periods, or some period holds d. -/
def openB (y d : Int) (F T : Nat → Int) (n : Nat) : Bool := !decide (0 < y) || hit d F T n

theorem hit_zero (d : Int) (F T : Nat → Int) : hit d F T 0 = false := rfl
theorem hit_succ (d : Int) (F T : Nat → Int) (n : Nat) : hit d F T (n + 1) = (hit d F T n || decide (F n ≤ d ∧ d ≤ T n)) := by
  unfold hit; rw [List.range_succ]; simp
theorem hit_true {d : Int} {F T : Nat → Int} {n k : Nat} (h : k < n) (h1 : F k ≤ d) (h2 : d ≤ T k) : hit d F T n = true := by
  unfold hit; rw [List.any_eq_true]; exact ⟨k, by simpa using h, by simp [h1, h2]⟩
theorem hit_iff (d : Int) (F T : Nat → Int) (n : Nat) : hit d F T n = true ↔ ∃ i, i < n ∧ F i ≤ d ∧ d ≤ T i := by
  unfold hit; rw [List.any_eq_true]; simp
theorem hit_split (d : Int) (F T : Nat → Int) (n k : Nat) (hk : k ≤ n) : hit d F T n = (hit d F T k || hit d (fun i => F (k + i)) (fun i => T (k + i)) (n - k)) := by
  rw [Bool.eq_iff_iff, Bool.or_eq_true, hit_iff, hit_iff, hit_iff]
  constructor
  · rintro ⟨i, hi, h1, h2⟩
    by_cases h : i < k
    · exact .inl ⟨i, h, h1, h2⟩
    · refine .inr ⟨i - k, by omega, ?_, ?_⟩
      · show F (k + (i - k)) ≤ d; rw [show k + (i - k) = i by omega]; exact h1
      · show d ≤ T (k + (i - k)); rw [show k + (i - k) = i by omega]; exact h2
  · rintro (⟨i, hi, h1, h2⟩ | ⟨i, hi, h1, h2⟩)
    · exact ⟨i, by omega, h1, h2⟩
    · exact ⟨k + i, by omega, h1, h2⟩
theorem hit_congr (d : Int) {F T F' T' : Nat → Int} {n : Nat} (h : ∀ i, i < n → F i = F' i ∧ T i = T' i) : hit d F T n = hit d F' T' n := by
  rw [Bool.eq_iff_iff, hit_iff, hit_iff]
  constructor
  · rintro ⟨i, hi, h1, h2⟩; exact ⟨i, hi, by rw [← (h i hi).1]; exact h1, by rw [← (h i hi).2]; exact h2⟩
  · rintro ⟨i, hi, h1, h2⟩; exact ⟨i, hi, by rw [(h i hi).1]; exact h1, by rw [(h i hi).2]; exact h2⟩

theorem openB_no {y : Int} (h : ¬ 0 < y) (d : Int) (F T : Nat → Int) (n : Nat) : openB y d F T n = true := by simp [openB, h]
theorem openB_yes {y : Int} (h : 0 < y) (d : Int) (F T : Nat → Int) (n : Nat) : openB y d F T n = hit d F T n := by simp [openB, h]

end Go.Proofs.Qxb6630072a
