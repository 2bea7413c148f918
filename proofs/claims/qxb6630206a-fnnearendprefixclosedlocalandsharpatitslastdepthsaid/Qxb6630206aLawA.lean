import Derived.Test.Qxb6630206aWalks
namespace Go.Proofs.Qxb6630206a
open Go.RowKit

theorem near_of (X d : Nat) (v : Bool) (w : World) (hX : X < 18446744073709551616) (hd : d ≤ 64) (hv : near X d = v) :
    Calls Try.prog 6 #[.int .u64 (X : Int), .int .u64 (d : Int)] w fun e w' => e = .returned (.bool v) ∧ Below w.heap.size w w' := by
  subst hv
  exact near6 X d w hX hd

theorem not_eq (X : Nat) (hX : X < 18446744073709551616) : bits .xor .u64 IntKind.u64.max (X : Int) = ((2 ^ 64 - (X + 1) : Nat) : Int) := by
  have hm : IntKind.u64.max = ((18446744073709551615 : Nat) : Int) := by decide
  rw [hm, u64_xor_nat _ _ (by omega) hX]
  congr 1
  apply Nat.eq_of_testBit_eq
  intro i
  rw [Nat.testBit_two_pow_sub_succ (show X < 2 ^ 64 by omega), Nat.testBit_xor, show 18446744073709551615 = 2 ^ 64 - 1 by decide, Nat.testBit_two_pow_sub_one]
  by_cases hi : i < 64
  · simp [hi]
  · have : X.testBit i = false := Nat.testBit_lt_two_pow (Nat.lt_of_lt_of_le hX (show (2:Nat) ^ 64 ≤ 2 ^ i from Nat.pow_le_pow_right (by omega) (by omega)))
    simp [hi, this]

theorem near_not {X d : Nat} (hX : X < 18446744073709551616) (hd : d ≤ 64) : near (2 ^ 64 - (X + 1)) d = near X d := by
  rw [Bool.eq_iff_iff, near_iff, near_iff, same_not (by omega) (by omega)]

theorem mir_of (X d : Nat) (v : Bool) (w : World) (hX : X < 18446744073709551616) (hd : d ≤ 64) (hv : near X d = v) :
    Calls Try.prog 6 #[.int .u64 (bits .xor .u64 IntKind.u64.max (X : Int)), .int .u64 (d : Int)] w fun e w' => e = .returned (.bool v) ∧ Below w.heap.size w w' := by
  rw [not_eq X hX]
  exact near_of _ d v w (by omega) hd ((near_not hX hd).trans hv)

theorem lawA_deep (X : Int) (d : Int) (w : World) (hd : 64 < d) :
    Calls Try.prog 3 #[.int .u64 X, .int .u64 d] w fun e w' => e = .returned (.bool true) ∧ Below w.heap.size w w' := by
  go_enter Try.func3, Try.ntmps3
  go_wp2
  go_ret
  exact ⟨rfl, Below.refl _ _⟩

set_option maxHeartbeats 400000 in
theorem lawA (X d : Nat) (w : World) (hX : X < 18446744073709551616) (hd : d ≤ 64) :
    Calls Try.prog 3 #[.int .u64 (X : Int), .int .u64 (d : Int)] w fun e w' => e = .returned (.bool true) ∧ Below w.heap.size w w' := by
  have hdi : ¬ (64 : Int) < (d : Int) := by omega
  have HX := hid hX
  clear hX
  go_enter Try.func3, Try.ntmps3
  go_wp2_with fail
  refine (run5 X w HX.out).mono ?_
  rintro _ _ ⟨r, rfl, hr, rfl⟩
  have HR := hid hr
  have hr64 : (r : Int) ≤ 64 := by have := hr.le; omega
  clear hr
  by_cases h10 : (d : Int) ≤ 10
  · have HV := hid (show near X d = true by rw [near_iff]; left; omega)
    go_wp2_with fail
    refine (near_of X d true _ HX.out hd HV.out).mono ?_
    rintro _ w1 ⟨rfl, hb1⟩
    go_wp2_with fail
    refine (mir_of X d true _ HX.out hd HV.out).mono ?_
    rintro _ w2 ⟨rfl, hb2⟩
    have hb := hb1.trans (hb2.mono hb1.size)
    go_wp2
    go_ret
    exact ⟨rfl, hb⟩
  · by_cases hle : (d : Int) - 10 ≤ (r : Int)
    · have HV := hid (show near X d = true by rw [near_iff, HR.out.iff (by omega)]; right; omega)
      go_wp2_with fail
      refine (near_of X d true _ HX.out hd HV.out).mono ?_
      rintro _ w1 ⟨rfl, hb1⟩
      go_wp2_with fail
      refine (mir_of X d true _ HX.out hd HV.out).mono ?_
      rintro _ w2 ⟨rfl, hb2⟩
      have hb := hb1.trans (hb2.mono hb1.size)
      go_wp2
      go_ret
      exact ⟨rfl, hb⟩
    · have HV := hid (show near X d = false by
        rw [Bool.eq_false_iff, Ne, near_iff, HR.out.iff (by omega)]
        omega)
      go_wp2_with fail
      refine (near_of X d false _ HX.out hd HV.out).mono ?_
      rintro _ w1 ⟨rfl, hb1⟩
      go_wp2_with fail
      refine (mir_of X d false _ HX.out hd HV.out).mono ?_
      rintro _ w2 ⟨rfl, hb2⟩
      have hb := hb1.trans (hb2.mono hb1.size)
      go_wp2
      go_ret
      refine ⟨ret_bool ?_, hb⟩
      rw [decide_eq_false (show ¬ (d : Int) ≤ 10 by omega), decide_eq_false (show ¬ (d : Int) - 10 ≤ (r : Int) by omega)]
      rfl
end Go.Proofs.Qxb6630206a
