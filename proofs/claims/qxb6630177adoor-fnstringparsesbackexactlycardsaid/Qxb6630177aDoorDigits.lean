/-
  Seat b6630177aD: the plain mathematics of reading the text back; no Go in sight.
-/
import Derived.Test.Qxb6630177aDoorPlain
namespace Go.Proofs.Qxb6630177aDoor
open Go.Lib

/-- the value of a list of digits -/
def stepV (v : Nat) (b : UInt8) : Nat := v * 10 + (b.toNat - 48)
def val (l : List UInt8) : Nat := l.foldl stepV 0
theorem foldl_le (l : List UInt8) : ∀ v, v ≤ l.foldl stepV v := by
  induction l with
  | nil => intro v; exact Nat.le_refl _
  | cons b l ih =>
    intro v
    refine Nat.le_trans ?_ (ih (stepV v b))
    unfold stepV
    omega
theorem val_snoc (l : List UInt8) (b : UInt8) : val (l ++ [b]) = val l * 10 + (b.toNat - 48) := by
  unfold val
  rw [List.foldl_append]
  rfl
theorem val_dec (u : Nat) : val (decDigits u) = u := by
  induction u using Nat.strongRecOn with
  | _ u ih =>
    rw [decDigits]
    by_cases h : u < 10
    · rw [dif_pos h]
      have : (UInt8.ofNat (48 + u)).toNat = 48 + u := by simp; omega
      show stepV 0 _ = u
      unfold stepV
      rw [this]
      omega
    · rw [dif_neg h, val_snoc, ih (u / 10) (by omega)]
      have : (UInt8.ofNat (48 + u % 10)).toNat = 48 + u % 10 := by simp; omega
      rw [this]
      omega
theorem val_take_le (l : List UInt8) (j : Nat) : val (l.take j) ≤ val l := by
  have h : val l = (l.drop j).foldl stepV (val (l.take j)) := by
    unfold val
    rw [← List.foldl_append, List.take_append_drop]
  rw [h]
  exact foldl_le _ _
theorem val_step (l : List UInt8) (j : Nat) (h : j < l.length) : val (l.take (j + 1)) = val (l.take j) * 10 + (l[j].toNat - 48) := by
  rw [List.take_succ_eq_append_getElem h, val_snoc]
theorem dec_head (u : Nat) : 0 < u → ∀ b, (decDigits u)[0]? = some b → b ≠ 48 := by
  induction u using Nat.strongRecOn with
  | _ u ih =>
    intro hu b hb
    rw [decDigits] at hb
    by_cases h : u < 10
    · rw [dif_pos h] at hb
      have hb' : UInt8.ofNat (48 + u) = b := by simpa using hb
      intro e
      rw [e] at hb'
      have := congrArg UInt8.toNat hb'
      have h2 : (UInt8.ofNat (48 + u)).toNat = 48 + u := by simp; omega
      rw [h2] at this
      have h3 : (48 : UInt8).toNat = 48 := rfl
      omega
    · rw [dif_neg h] at hb
      rw [List.getElem?_append_left (dec_pos _)] at hb
      exact ih (u / 10) (by omega) (by omega) b hb
theorem dec_zero_head {u : Nat} (h : (decDigits u)[0]? = some 48) : (decDigits u).length = 1 := by
  by_cases hu : u = 0
  · subst hu
    rw [decDigits, dif_pos (by omega)]
    rfl
  · exact absurd rfl (dec_head u (by omega) 48 h)

/-- the bytes l stand in s from p on -/
def Spot (s : ByteArray) (p : Nat) (l : List UInt8) : Prop := ∀ i (_ : i < l.length), ∃ h : p + i < s.size, s[p + i] = l[i]
/-- no digit stands at p -/
def Ends (s : ByteArray) (p : Nat) : Prop := ∀ h : p < s.size, ¬ (48 ≤ s[p].toNat ∧ s[p].toNat ≤ 57)

theorem get_toArray (T : List UInt8) (k : Nat) (h : k < (⟨T.toArray⟩ : ByteArray).size) : (⟨T.toArray⟩ : ByteArray)[k] = T[k]'(by simpa [ByteArray.size] using h) := rfl
theorem spot_of (A l B : List UInt8) : Spot ⟨(A ++ l ++ B).toArray⟩ A.length l := fun i hi => by
  refine ⟨by simp [ByteArray.size]; omega, ?_⟩
  rw [get_toArray]
  simp [List.getElem_append_left, List.getElem_append_right, hi]
theorem ends_of (A : List UInt8) (b : UInt8) (B : List UInt8) (hb : b.toNat < 48) : Ends ⟨(A ++ b :: B).toArray⟩ A.length := fun h => by
  rw [get_toArray]
  simp
  omega
theorem ends_nil (A : List UInt8) : Ends ⟨A.toArray⟩ A.length := fun h => by
  simp [ByteArray.size] at h

/-- the text goes on behind its first k gtids -/
theorem txt_more (D S Q : Nat → Nat) (k m : Nat) (hk : 0 < k) : ∃ R, txt D S Q (k + m) = txt D S Q k ++ R ∧ (R = [] ∨ ∃ R', R = 44 :: R') := by
  by_cases h : m = 0
  · subst h
    exact ⟨[], by simp, .inl rfl⟩
  · exact ⟨_, txt_split D S Q k m hk (by omega), .inr ⟨_, rfl⟩⟩

/-- where the i-th gtid stands -/
structure Marks (s : ByteArray) (i d t q p e : Nat) : Prop where
  comma : 0 < i → ∃ h : p < s.size, s[p] = 44
  dom : Spot s (p + (sep i).length) (decDigits d)
  dash1 : ∃ h : p + (sep i).length + (decDigits d).length < s.size, s[p + (sep i).length + (decDigits d).length] = 45
  srv : Spot s (p + (sep i).length + (decDigits d).length + 1) (decDigits t)
  dash2 : ∃ h : p + (sep i).length + (decDigits d).length + 1 + (decDigits t).length < s.size, s[p + (sep i).length + (decDigits d).length + 1 + (decDigits t).length] = 45
  seq : Spot s (p + (sep i).length + (decDigits d).length + 1 + (decDigits t).length + 1) (decDigits q)
  last : p + (sep i).length + (decDigits d).length + 1 + (decDigits t).length + 1 + (decDigits q).length = e
  ends : Ends s e
theorem Marks.end1 {s : ByteArray} {i d t q p e : Nat} (h : Marks s i d t q p e) : Ends s (p + (sep i).length + (decDigits d).length) := fun hk => by
  obtain ⟨_, h'⟩ := h.dash1
  rw [h']
  decide
theorem Marks.end2 {s : ByteArray} {i d t q p e : Nat} (h : Marks s i d t q p e) : Ends s (p + (sep i).length + (decDigits d).length + 1 + (decDigits t).length) := fun hk => by
  obtain ⟨_, h'⟩ := h.dash2
  rw [h']
  decide

theorem one_of {s : ByteArray} {p : Nat} {b : UInt8} (h : Spot s p [b]) : ∃ h : p < s.size, s[p] = b := h 0 (by simp)
theorem marks (D S Q : Nat → Nat) (n i : Nat) (hi : i < n) : Marks ⟨(txt D S Q n).toArray⟩ i (D i) (S i) (Q i) (txt D S Q i).length (txt D S Q (i + 1)).length := by
  obtain ⟨R, hR, hR'⟩ := txt_more D S Q (i + 1) (n - (i + 1)) (by omega)
  rw [show i + 1 + (n - (i + 1)) = n by omega] at hR
  obtain ⟨X, hX⟩ : ∃ X, X = txt D S Q i := ⟨_, rfl⟩
  have hT : txt D S Q n = X ++ sep i ++ decDigits (D i) ++ [45] ++ decDigits (S i) ++ [45] ++ decDigits (Q i) ++ R := by
    rw [hR, txt_succ, ← hX]
    simp [piece]
  have hE : (txt D S Q (i + 1)).length = X.length + (sep i).length + (decDigits (D i)).length + 1 + (decDigits (S i)).length + 1 + (decDigits (Q i)).length := by
    rw [txt_succ, ← hX]
    simp [piece]
    omega
  rw [hT, hE, ← hX]
  refine ⟨?_, ?_, ?_, ?_, ?_, ?_, rfl, ?_⟩
  · intro h0
    have := spot_of X (sep i) (decDigits (D i) ++ [45] ++ decDigits (S i) ++ [45] ++ decDigits (Q i) ++ R)
    have e : sep i = [44] := by unfold sep; rw [if_neg (by omega)]
    rw [e] at this ⊢
    simp only [List.append_assoc] at this ⊢
    exact one_of this
  · have := spot_of (X ++ sep i) (decDigits (D i)) ([45] ++ decDigits (S i) ++ [45] ++ decDigits (Q i) ++ R)
    simp only [List.append_assoc, List.length_append] at this ⊢
    exact this
  · have := spot_of (X ++ sep i ++ decDigits (D i)) [45] (decDigits (S i) ++ [45] ++ decDigits (Q i) ++ R)
    simp only [List.append_assoc, List.length_append, ← Nat.add_assoc] at this ⊢
    exact one_of this
  · have := spot_of (X ++ sep i ++ decDigits (D i) ++ [45]) (decDigits (S i)) ([45] ++ decDigits (Q i) ++ R)
    simp only [List.append_assoc, List.length_append, ← Nat.add_assoc, List.length_singleton] at this ⊢
    exact this
  · have := spot_of (X ++ sep i ++ decDigits (D i) ++ [45] ++ decDigits (S i)) [45] (decDigits (Q i) ++ R)
    simp only [List.append_assoc, List.length_append, ← Nat.add_assoc, List.length_singleton] at this ⊢
    exact one_of this
  · have := spot_of (X ++ sep i ++ decDigits (D i) ++ [45] ++ decDigits (S i) ++ [45]) (decDigits (Q i)) R
    simp only [List.append_assoc, List.length_append, ← Nat.add_assoc, List.length_singleton] at this ⊢
    exact this
  · obtain ⟨Y, hY⟩ : ∃ Y, Y = X ++ sep i ++ decDigits (D i) ++ [45] ++ decDigits (S i) ++ [45] ++ decDigits (Q i) := ⟨_, rfl⟩
    have hl : X.length + (sep i).length + (decDigits (D i)).length + 1 + (decDigits (S i)).length + 1 + (decDigits (Q i)).length = Y.length := by
      rw [hY]
      simp only [List.length_append, List.length_singleton]
    rw [hl, ← hY]
    rcases hR' with rfl | ⟨R', rfl⟩
    · rw [List.append_nil]
      exact ends_nil Y
    · exact ends_of Y 44 R' (by decide)
end Go.Proofs.Qxb6630177aDoor
