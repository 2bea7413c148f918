/-
  THE PLAIN MATHEMATICS of seat b6630177aD: the text of a position; no Go in sight.
-/
import Derived.Lib.ItoaNum
import Derived.Lib.ItoaLen
namespace Go.Proofs.Qxb6630177aDoor
open Go.Lib

/-! ### decimal numerals -/
theorem dec_bytes (u : Nat) : ∀ b ∈ decDigits u, 48 ≤ b.toNat ∧ b.toNat ≤ 57 := by
  induction u using Nat.strongRecOn with
  | _ u ih =>
    intro b hb
    rw [decDigits] at hb
    by_cases h : u < 10
    · rw [dif_pos h] at hb
      rw [List.mem_singleton] at hb
      subst hb
      have : (UInt8.ofNat (48 + u)).toNat = 48 + u := by simp; omega
      rw [this]
      omega
    · rw [dif_neg h] at hb
      rcases List.mem_append.1 hb with h1 | h1
      · exact ih (u / 10) (by omega) b h1
      · rw [List.mem_singleton] at h1
        subst h1
        have : (UInt8.ofNat (48 + u % 10)).toNat = 48 + u % 10 := by simp; omega
        rw [this]
        omega
theorem dec_pos (u : Nat) : 0 < (decDigits u).length := by
  rw [decDigits]
  by_cases h : u < 10
  · rw [dif_pos h]; simp
  · rw [dif_neg h]; simp
theorem dec_len (u : Nat) (h : u < 18446744073709551616) : (decDigits u).length ≤ 20 := by rw [decDigits_length]; exact nDigits_le20 u h
theorem dec_count (u : Nat) (c : UInt8) (h : c.toNat < 48) : (decDigits u).count c = 0 := by
  rw [List.count_eq_zero]
  intro hm
  have := dec_bytes u c hm
  omega

/-! ### the text -/
/-- one gtid -/
def piece (d s q : Nat) : List UInt8 := decDigits d ++ [45] ++ decDigits s ++ [45] ++ decDigits q
/-- what stands ahead of the k-th gtid -/
def sep (k : Nat) : List UInt8 := if k = 0 then [] else [44]
/-- the first k gtids -/
def txt (D S Q : Nat → Nat) : Nat → List UInt8
  | 0 => []
  | k + 1 => txt D S Q k ++ sep k ++ piece (D k) (S k) (Q k)

theorem txt_zero (D S Q : Nat → Nat) : txt D S Q 0 = [] := rfl
theorem txt_succ (D S Q : Nat → Nat) (k : Nat) : txt D S Q (k + 1) = txt D S Q k ++ sep k ++ piece (D k) (S k) (Q k) := rfl

theorem piece_count_comma (d s q : Nat) : (piece d s q).count 44 = 0 := by
  unfold piece
  simp [List.count_append, dec_count _ 44 (by decide)]
theorem piece_count_dash (d s q : Nat) : (piece d s q).count 45 = 2 := by
  unfold piece
  simp [List.count_append, dec_count _ 45 (by decide)]
theorem piece_len (d s q : Nat) (h1 : d < 18446744073709551616) (h2 : s < 18446744073709551616) (h3 : q < 18446744073709551616) : (piece d s q).length ≤ 62 := by
  unfold piece
  have := dec_len d h1
  have := dec_len s h2
  have := dec_len q h3
  simp
  omega
theorem piece_pos (d s q : Nat) : 0 < (piece d s q).length := by unfold piece; simp; omega

theorem txt_count_comma (D S Q : Nat → Nat) (n : Nat) : (txt D S Q n).count 44 = n - 1 := by
  induction n with
  | zero => rfl
  | succ n ih =>
    rw [txt_succ, List.count_append, List.count_append, ih, piece_count_comma]
    unfold sep
    by_cases h : n = 0
    · simp [h]
    · simp [h]; omega
theorem txt_count_dash (D S Q : Nat → Nat) (n : Nat) : (txt D S Q n).count 45 = 2 * n := by
  induction n with
  | zero => rfl
  | succ n ih =>
    rw [txt_succ, List.count_append, List.count_append, ih, piece_count_dash]
    unfold sep
    by_cases h : n = 0
    · simp [h]
    · simp [h]; omega
theorem txt_len (D S Q : Nat → Nat) (n : Nat) (h : ∀ i, i < n → D i < 18446744073709551616 ∧ S i < 18446744073709551616 ∧ Q i < 18446744073709551616) : (txt D S Q n).length ≤ 63 * n := by
  induction n with
  | zero => simp [txt_zero]
  | succ n ih =>
    have h1 := ih (fun i hi => h i (by omega))
    obtain ⟨a, b, c⟩ := h n (by omega)
    have h2 := piece_len (D n) (S n) (Q n) a b c
    have h3 : (sep n).length ≤ 1 := by unfold sep; split <;> simp
    rw [txt_succ, List.length_append, List.length_append]
    omega
theorem txt_pos (D S Q : Nat → Nat) {n : Nat} (h : 0 < n) : 0 < (txt D S Q n).length := by
  obtain ⟨m, rfl⟩ : ∃ m, n = m + 1 := ⟨n - 1, by omega⟩
  rw [txt_succ, List.length_append]
  have := piece_pos (D m) (S m) (Q m)
  omega
theorem txt_split (D S Q : Nat → Nat) (k m : Nat) (hk : 0 < k) (hm : 0 < m) :
    txt D S Q (k + m) = txt D S Q k ++ 44 :: txt (fun i => D (k + i)) (fun i => S (k + i)) (fun i => Q (k + i)) m := by
  induction m with
  | zero => omega
  | succ m ih =>
    rw [← Nat.add_assoc, txt_succ, txt_succ]
    by_cases h : m = 0
    · subst h
      have e : sep (k + 0) = [44] := by unfold sep; rw [if_neg (by omega)]
      rw [e, txt_zero]
      simp [sep]
    · rw [ih (by omega)]
      have e1 : sep (k + m) = [44] := by unfold sep; rw [if_neg (by omega)]
      have e2 : sep m = [44] := by unfold sep; rw [if_neg h]
      rw [e1, e2]
      simp
theorem txt_congr {D S Q D' S' Q' : Nat → Nat} {n : Nat} (h : ∀ i, i < n → D i = D' i ∧ S i = S' i ∧ Q i = Q' i) : txt D S Q n = txt D' S' Q' n := by
  induction n with
  | zero => rfl
  | succ n ih =>
    obtain ⟨a, b, c⟩ := h n (by omega)
    rw [txt_succ, txt_succ, ih (fun i hi => h i (by omega)), a, b, c]
end Go.Proofs.Qxb6630177aDoor
