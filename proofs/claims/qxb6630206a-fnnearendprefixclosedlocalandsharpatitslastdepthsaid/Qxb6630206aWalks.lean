import Derived.Test.Qxb6630206aRows
import Derived.Test.Qxb6630206aPlain
import Derived.WalkKit
import Derived.ProofKit
import Derived.WalkSpells
import Derived.WalkSmall
import Derived.Deep.LoopGhost
import Derived.Laws.BitsAllLaws
import Derived.Laws.DeepNot64
namespace Go.Proofs.Qxb6630206a
open Go.RowKit

theorem hid {p : Prop} (h : p) : Hid p := h
theorem ret_bool {a b : Bool} (h : a = b) : Ending.returned (.bool a) = .returned (.bool b) := by rw [h]

/-- the mask, as the walk spells it -/
theorem mask_eq (j : Nat) (hj : j < 64) (x : Int) (hx : x = (j : Int)) : IntKind.u64.wrap (IntKind.u64.wrap (2 ^ x.toNat) - 1) = ((2 ^ j - 1 : Nat) : Int) := by
  subst hx
  have h1 : (2 : Nat) ^ j < 2 ^ 64 := Nat.pow_lt_pow_right (by omega) hj
  have h2 : 0 < (2 : Nat) ^ j := Nat.two_pow_pos j
  have e : ((2 : Int) ^ (j : Int).toNat) = ((2 ^ j : Nat) : Int) := by simp
  rw [e, IntKind.wrap_u64, IntKind.wrap_u64]
  omega

/-- the mask and the steps, as the walk spells them -/
def msk (d : Int) : Int := IntKind.u64.wrap (IntKind.u64.wrap (2 ^ ((d - 10) % 64).toNat) - 1)
def stp (x d : Int) : Int := bits .and .u64 x (msk d)

set_option maxHeartbeats 400000 in
theorem near7_core (x d : Int) (w : World) (_hx0 : 0 ≤ x) (_hx : x < 18446744073709551616) (hd0 : 10 < d) (hd : d ≤ 64) :
    Calls Try.prog 7 #[.agg #[.int .u64 x, .int .u64 d]] w fun e w' => e = .returned (.bool ((stp x d == 0) || (stp x d == msk d))) ∧ Below w.heap.size w w' := by
  go_enter Try.func7, Try.ntmps7
  go_wp2
  · go_ret
    refine ⟨ret_bool ?_, (Below.refl _ _).alloc (Nat.le_refl _) _⟩
    rw [beq_iff_eq.2 (show stp x d = 0 by unfold stp msk; assumption)]
    rfl
  · go_ret
    refine ⟨ret_bool ?_, (Below.refl _ _).alloc (Nat.le_refl _) _⟩
    rfl

theorem near7 (X d : Nat) (w : World) (hX : X < 18446744073709551616) (hd : d ≤ 64) :
    Calls Try.prog 7 #[.agg #[.int .u64 (X : Int), .int .u64 (d : Int)]] w fun e w' => e = .returned (.bool (near X d)) ∧ Below w.heap.size w w' := by
  by_cases h10 : (d : Int) ≤ 10
  · have HN := hid (show near X d = true by rw [near_iff]; left; omega)
    go_enter Try.func7, Try.ntmps7
    go_wp2
    go_ret
    exact ⟨ret_bool HN.out.symm, (Below.refl _ _).alloc (Nat.le_refl _) _⟩
  · refine (near7_core X d w (by omega) (by omega) (by omega) (by omega)).mono ?_
    rintro _ w' ⟨rfl, hb⟩
    refine ⟨ret_bool ?_, hb⟩
    have hlt : 2 ^ (d - 10) < 2 ^ 64 := Nat.pow_lt_pow_right (by omega) (by omega)
    have m1 : msk d = ((2 ^ (d - 10) - 1 : Nat) : Int) := mask_eq (d - 10) (by omega) _ (by omega)
    have m2 : stp X d = ((X % 2 ^ (d - 10) : Nat) : Int) := by
      unfold stp
      rw [m1, bits_and_u64_nat X _ hX (by omega), Nat.and_two_pow_sub_one_eq_mod]
    rw [m1, m2]
    unfold near
    rw [decide_eq_false (show ¬ d ≤ 10 by omega), Bool.false_or]
    generalize X % 2 ^ (d - 10) = R
    generalize 2 ^ (d - 10) - 1 = M
    have e1 : ((R : Int) == 0) = decide (R = 0) := by
      by_cases h : R = 0
      · subst h; rfl
      · rw [decide_eq_false h, beq_eq_false_iff_ne]; omega
    have e2 : ((R : Int) == (M : Int)) = decide (R = M) := by
      by_cases h : R = M
      · subst h; simp
      · rw [decide_eq_false h, beq_eq_false_iff_ne]; omega
    rw [e1, e2]

theorem near6 (X d : Nat) (w : World) (hX : X < 18446744073709551616) (hd : d ≤ 64) :
    Calls Try.prog 6 #[.int .u64 (X : Int), .int .u64 (d : Int)] w fun e w' => e = .returned (.bool (near X d)) ∧ Below w.heap.size w w' := by
  have A := hid (near7 X d w hX hd)
  go_enter Try.func6, Try.ntmps6
  go_wp2_with fail
  refine A.out.mono ?_
  rintro _ w' ⟨rfl, hb⟩
  go_wp2
  go_ret
  exact ⟨rfl, hb⟩

/-- it returns the length of the first run -/
def Ran (X : Nat) (w : World) (e : Ending) (w' : World) : Prop := ∃ r, e = .returned (.int .u64 (r : Nat)) ∧ Run X r ∧ w = w'

set_option maxHeartbeats 400000 in
theorem run5 (X : Nat) (w : World) (hX : X < 18446744073709551616) :
    Calls Try.prog 5 #[.int .u64 (X : Int)] w fun e w' => Ran X w e w' := by
  obtain ⟨A, hA⟩ : ∃ A, A = X % 2 := ⟨_, rfl⟩
  have h01 : bits .and .u64 (X : Int) 1 = (A : Int) := by
    have := bits_and_u64_nat X 1 hX (by omega)
    rw [hA]
    simpa [Nat.and_one_is_mod] using this
  have HA := hid hA
  clear hA
  go_enter Try.func5, Try.ntmps5
  go_wp2
  go_loopg [4] 64 (fun g i wr => ∃ k : Nat, k + g = 64 ∧ i = .int .u64 k ∧ same X k ∧ w = wr)
  case atStart => exact ⟨0, rfl, rfl, same_zero X, rfl⟩
  case round =>
    obtain ⟨k, hk0, rfl, hsm, rfl⟩ := hrel
    have hk : k ≤ 64 := by omega
    have HK := hid hk0
    have HS := hid hsm
    clear hk0 hsm
    by_cases hlt : k < 64
    · have h64 : (k : Int) < 64 := by omega
      obtain ⟨C, hC⟩ : ∃ C, C = X / 2 ^ k % 2 := ⟨_, rfl⟩
      have hk1 : bits .and .u64 ((X : Int) / 2 ^ k) 1 = (C : Int) := by
        have e : ((X : Int) / 2 ^ k) = ((X / 2 ^ k : Nat) : Int) := by simp
        have hle : X / 2 ^ k ≤ X := Nat.div_le_self _ _
        have := bits_and_u64_nat (X / 2 ^ k) 1 (by omega) (by omega)
        rw [e, hC]
        simpa [Nat.and_one_is_mod] using this
      have HC := hid (show X.testBit k = X.testBit 0 ↔ C = A by
        rw [Nat.testBit_eq_decide_div_mod_eq, Nat.testBit_eq_decide_div_mod_eq, hC, HA.out, Nat.pow_zero, Nat.div_one]
        have h1 : X / 2 ^ k % 2 < 2 := Nat.mod_lt _ (by omega)
        have h2 : X % 2 < 2 := Nat.mod_lt _ (by omega)
        constructor
        · intro h
          by_cases ha : X / 2 ^ k % 2 = 1 <;> by_cases hb : X % 2 = 1 <;> simp [ha, hb] at h <;> omega
        · intro h
          rw [h])
      clear hC
      by_cases hCA : C = A
      · have hb : ((C : Int) == (A : Int)) = true := by simp [hCA]
        have HCA := hid hCA
        clear hCA
        go_wp2
        have hk2 := HK.out
        go_roundg (gk - 1)
        case measure => omega
        case rel => exact ⟨k + 1, by omega, by go_num, same_succ HS.out (HC.out.2 HCA.out), rfl⟩
      · have hb : ((C : Int) == (A : Int)) = false := by
          rw [beq_eq_false_iff_ne]
          omega
        have HCA := hid hCA
        clear hCA
        go_wp2
        go_ret
        exact ⟨k, rfl, ⟨hk, HS.out, fun _ h => HCA.out (HC.out.1 h)⟩, rfl⟩
    · have h64 : ¬ (k : Int) < 64 := by omega
      go_wp2
      go_ret
      exact ⟨k, rfl, ⟨hk, HS.out, fun h => absurd h hlt⟩, rfl⟩
end Go.Proofs.Qxb6630206a
