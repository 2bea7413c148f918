import Derived.Test.Qxb6630206aLawA
namespace Go.Proofs.Qxb6630206a
open Go.RowKit
set_option linter.unusedVariables false      -- a walk uses the bounds from the context

theorem lawB_deep (X Y d : Int) (w : World) (hd : 64 < d) :
    Calls Try.prog 4 #[.int .u64 X, .int .u64 Y, .int .u64 d] w fun e w' => e = .returned (.bool true) ∧ Below w.heap.size w w' := by
  go_enter Try.func4, Try.ntmps4
  go_wp2
  go_ret
  exact ⟨rfl, Below.refl _ _⟩

theorem near_back {X d : Nat} (h : near X (d + 1) = true) : near X d = true := by
  rw [near_iff] at h ⊢
  rcases h with h | h
  · left; omega
  · by_cases h10 : d ≤ 10
    · left; exact h10
    · right; exact same_mono h (by omega)

theorem hv_spl {X Y d : Nat} {v : Bool} (h : near X d = v) : near ((X &&& (2 ^ (d - 10) - 1)) ||| (Y &&& (2 ^ 64 - 1 - (2 ^ (d - 10) - 1)))) d = v := by
  rw [← h, Bool.eq_iff_iff, near_iff, near_iff, same_splice]

theorem spl_lt {X Y k : Nat} (hX : X < 18446744073709551616) (hY : Y < 18446744073709551616) : ((X &&& (2 ^ k - 1)) ||| (Y &&& (2 ^ 64 - 1 - (2 ^ k - 1)))) < 18446744073709551616 := by
  have h1 : X &&& (2 ^ k - 1) ≤ X := Nat.and_le_left
  have h2 : Y &&& (2 ^ 64 - 1 - (2 ^ k - 1)) ≤ Y := Nat.and_le_left
  exact Nat.or_lt_two_pow (n := 64) (Nat.lt_of_le_of_lt h1 hX) (Nat.lt_of_le_of_lt h2 hY)

/-- the splice, as the walk spells it -/
theorem spl_eq (X Y d : Nat) (m : Int) (hX : X < 18446744073709551616) (hY : Y < 18446744073709551616) (hm : m = ((2 ^ (d - 10) - 1 : Nat) : Int)) (hd : d ≤ 64) :
    bits .or .u64 (bits .and .u64 (X : Int) m) (bits .andNot .u64 (Y : Int) m) = (((X &&& (2 ^ (d - 10) - 1)) ||| (Y &&& (2 ^ 64 - 1 - (2 ^ (d - 10) - 1))) : Nat) : Int) := by
  have hlt : 2 ^ (d - 10) < 2 ^ 64 := Nat.pow_lt_pow_right (by omega) (by omega)
  have h1 : X &&& (2 ^ (d - 10) - 1) ≤ X := Nat.and_le_left
  have h2 : Y &&& (18446744073709551615 - (2 ^ (d - 10) - 1)) ≤ Y := Nat.and_le_left
  rw [hm, bits_and_u64_nat X _ hX (by omega), u64_andNot_nat Y _ hY (by omega)]
  exact bits_or_u64_nat _ _ (by omega) (by omega)

/-- a call of 6 at integers that are known to be these numbers -/
theorem near_at (X d : Nat) (v : Bool) (x e : Int) (w : World) (hX : X < 18446744073709551616) (hd : d ≤ 64) (hv : near X d = v) (hx : x = (X : Int)) (he : e = (d : Int)) :
    Calls Try.prog 6 #[.int .u64 x, .int .u64 e] w fun e w' => e = .returned (.bool v) ∧ Below w.heap.size w w' := by
  subst hx he
  exact near_of X d v w hX hd hv

/-- a call of 6, wherever it is made, returns v -/
def At (x e : Int) (v : Bool) : Prop := ∀ w : World, Calls Try.prog 6 #[.int .u64 x, .int .u64 e] w fun f w' => f = .returned (.bool v) ∧ Below w.heap.size w w'
def Five (x R : Int) : Prop := ∀ w : World, Calls Try.prog 5 #[.int .u64 x] w fun e w' => e = .returned (.int .u64 R) ∧ w = w'
/-- the splice, at any mask of this value -/
def Spl (x y D : Int) (v : Bool) : Prop := ∀ m : Int, m = ((2 ^ (D - 10).toNat - 1 : Nat) : Int) → At (bits .or .u64 (bits .and .u64 x m) (bits .andNot .u64 y m)) D v

theorem mask_big {D : Int} (h0 : 10 < D) (h1 : D ≤ 64) : IntKind.u64.wrap (IntKind.u64.wrap (2 ^ (D - 10).toNat) - 1) = ((2 ^ (D - 10).toNat - 1 : Nat) : Int) :=
  mask_eq (D - 10).toNat (by omega) (D - 10) (by omega)
theorem mask_low {D : Int} (h1 : D ≤ 10) : (0 : Int) = ((2 ^ (D - 10).toNat - 1 : Nat) : Int) := by
  have : (D - 10).toNat = 0 := by omega
  rw [this]
  rfl

set_option maxHeartbeats 400000 in
theorem lawB_a1 (x y D R : Int) (v : Bool) (w : World) (hx0 : 0 ≤ x) (hx1 : x < 18446744073709551616) (hy0 : 0 ≤ y) (hy1 : y < 18446744073709551616) (hD0 : 10 < D) (hD1 : 64 ≤ D) (hD2 : D ≤ 64) (hR0 : 0 ≤ R) (hR1 : R ≤ 64) (h54 : 64 < 10 + R)
    (A5 : Hid (Five x R)) (NL : Hid (At x 64 true)) (NH : Hid (At x D v)) (NS : Hid (Spl x y D v)) :
    Calls Try.prog 4 #[.int .u64 x, .int .u64 y, .int .u64 D] w fun e w' => e = .returned (.bool true) ∧ Below w.heap.size w w' := by
  have hdi : D ≤ 64 := by omega
  go_enter Try.func4, Try.ntmps4
  go_wp2_with fail
  refine (A5.out _).mono ?_
  rintro _ _ ⟨rfl, rfl⟩
  go_wp2_with fail
  refine (NL.out _).mono ?_
  rintro _ w1 ⟨rfl, hb⟩
  go_wp2_with fail
  refine (NH.out _).mono ?_
  rintro _ w3 ⟨rfl, hb3⟩
  have hb := hb.trans (hb3.mono hb.size)
  go_wp2_with fail
  refine (NS.out _ (mask_big (by omega) (by omega)) _).mono ?_
  rintro _ w9 ⟨rfl, hb9⟩
  have hb := hb.trans (hb9.mono hb.size)
  go_wp2
  go_ret
  exact ⟨ret_bool (by first | rfl | (cases v <;> rfl)), hb⟩

set_option maxHeartbeats 400000 in
theorem lawB_a2 (x y D R : Int) (w : World) (hx0 : 0 ≤ x) (hx1 : x < 18446744073709551616) (hy0 : 0 ≤ y) (hy1 : y < 18446744073709551616) (hD0 : 10 < D) (hD1 : D < 64) (hR0 : 0 ≤ R) (hR1 : R ≤ 64) (h54 : 64 < 10 + R)
    (A5 : Hid (Five x R)) (NL : Hid (At x 64 true)) (NH : Hid (At x D true)) (NH1 : Hid (At x (D + 1) true)) (NS : Hid (Spl x y D true)) :
    Calls Try.prog 4 #[.int .u64 x, .int .u64 y, .int .u64 D] w fun e w' => e = .returned (.bool true) ∧ Below w.heap.size w w' := by
  have hdi : D ≤ 64 := by omega
  go_enter Try.func4, Try.ntmps4
  go_wp2_with fail
  refine (A5.out _).mono ?_
  rintro _ _ ⟨rfl, rfl⟩
  go_wp2_with fail
  refine (NL.out _).mono ?_
  rintro _ w1 ⟨rfl, hb⟩
  go_wp2_with fail
  refine (NH.out _).mono ?_
  rintro _ w3 ⟨rfl, hb3⟩
  have hb := hb.trans (hb3.mono hb.size)
  go_wp2_with fail
  refine (NH1.out _).mono ?_
  rintro _ w4 ⟨rfl, hb4⟩
  have hb := hb.trans (hb4.mono hb.size)
  go_wp2_with fail
  refine (NS.out _ (mask_big (by omega) (by omega)) _).mono ?_
  rintro _ w9 ⟨rfl, hb9⟩
  have hb := hb.trans (hb9.mono hb.size)
  go_wp2
  go_ret
  exact ⟨ret_bool (by first | rfl | (cases v <;> rfl)), hb⟩

set_option maxHeartbeats 400000 in
theorem lawB_a3 (x y D R : Int) (v : Bool) (w : World) (hx0 : 0 ≤ x) (hx1 : x < 18446744073709551616) (hy0 : 0 ≤ y) (hy1 : y < 18446744073709551616) (hD0 : 10 < D) (hD1 : D < 64) (hR0 : 0 ≤ R) (hR1 : R ≤ 64) (h54 : 64 < 10 + R)
    (A5 : Hid (Five x R)) (NL : Hid (At x 64 true)) (NH : Hid (At x D v)) (NH1 : Hid (At x (D + 1) false)) (NS : Hid (Spl x y D v)) :
    Calls Try.prog 4 #[.int .u64 x, .int .u64 y, .int .u64 D] w fun e w' => e = .returned (.bool true) ∧ Below w.heap.size w w' := by
  have hdi : D ≤ 64 := by omega
  go_enter Try.func4, Try.ntmps4
  go_wp2_with fail
  refine (A5.out _).mono ?_
  rintro _ _ ⟨rfl, rfl⟩
  go_wp2_with fail
  refine (NL.out _).mono ?_
  rintro _ w1 ⟨rfl, hb⟩
  go_wp2_with fail
  refine (NH.out _).mono ?_
  rintro _ w3 ⟨rfl, hb3⟩
  have hb := hb.trans (hb3.mono hb.size)
  go_wp2_with fail
  refine (NH1.out _).mono ?_
  rintro _ w4 ⟨rfl, hb4⟩
  have hb := hb.trans (hb4.mono hb.size)
  go_wp2_with fail
  refine (NS.out _ (mask_big (by omega) (by omega)) _).mono ?_
  rintro _ w9 ⟨rfl, hb9⟩
  have hb := hb.trans (hb9.mono hb.size)
  go_wp2
  go_ret
  exact ⟨ret_bool (by first | rfl | (cases v <;> rfl)), hb⟩

set_option maxHeartbeats 400000 in
theorem lawB_a4 (x y D R : Int) (w : World) (hx0 : 0 ≤ x) (hx1 : x < 18446744073709551616) (hy0 : 0 ≤ y) (hy1 : y < 18446744073709551616) (hD0 : 0 ≤ D) (hD1 : D ≤ 10) (hR0 : 0 ≤ R) (hR1 : R ≤ 64) (h54 : 64 < 10 + R)
    (A5 : Hid (Five x R)) (NL : Hid (At x 64 true)) (NH : Hid (At x D true)) (NH1 : Hid (At x (D + 1) true)) (NS : Hid (Spl x y D true)) :
    Calls Try.prog 4 #[.int .u64 x, .int .u64 y, .int .u64 D] w fun e w' => e = .returned (.bool true) ∧ Below w.heap.size w w' := by
  have hdi : D ≤ 64 := by omega
  go_enter Try.func4, Try.ntmps4
  go_wp2_with fail
  refine (A5.out _).mono ?_
  rintro _ _ ⟨rfl, rfl⟩
  go_wp2_with fail
  refine (NL.out _).mono ?_
  rintro _ w1 ⟨rfl, hb⟩
  go_wp2_with fail
  refine (NH.out _).mono ?_
  rintro _ w3 ⟨rfl, hb3⟩
  have hb := hb.trans (hb3.mono hb.size)
  go_wp2_with fail
  refine (NH1.out _).mono ?_
  rintro _ w4 ⟨rfl, hb4⟩
  have hb := hb.trans (hb4.mono hb.size)
  go_wp2_with fail
  refine (NS.out _ (mask_low (by omega)) _).mono ?_
  rintro _ w9 ⟨rfl, hb9⟩
  have hb := hb.trans (hb9.mono hb.size)
  go_wp2
  go_ret
  exact ⟨ret_bool (by first | rfl | (cases v <;> rfl)), hb⟩

set_option maxHeartbeats 400000 in
theorem lawB_a5 (x y D R : Int) (v : Bool) (w : World) (hx0 : 0 ≤ x) (hx1 : x < 18446744073709551616) (hy0 : 0 ≤ y) (hy1 : y < 18446744073709551616) (hD0 : 0 ≤ D) (hD1 : D ≤ 10) (hR0 : 0 ≤ R) (hR1 : R ≤ 64) (h54 : 64 < 10 + R)
    (A5 : Hid (Five x R)) (NL : Hid (At x 64 true)) (NH : Hid (At x D v)) (NH1 : Hid (At x (D + 1) false)) (NS : Hid (Spl x y D v)) :
    Calls Try.prog 4 #[.int .u64 x, .int .u64 y, .int .u64 D] w fun e w' => e = .returned (.bool true) ∧ Below w.heap.size w w' := by
  have hdi : D ≤ 64 := by omega
  go_enter Try.func4, Try.ntmps4
  go_wp2_with fail
  refine (A5.out _).mono ?_
  rintro _ _ ⟨rfl, rfl⟩
  go_wp2_with fail
  refine (NL.out _).mono ?_
  rintro _ w1 ⟨rfl, hb⟩
  go_wp2_with fail
  refine (NH.out _).mono ?_
  rintro _ w3 ⟨rfl, hb3⟩
  have hb := hb.trans (hb3.mono hb.size)
  go_wp2_with fail
  refine (NH1.out _).mono ?_
  rintro _ w4 ⟨rfl, hb4⟩
  have hb := hb.trans (hb4.mono hb.size)
  go_wp2_with fail
  refine (NS.out _ (mask_low (by omega)) _).mono ?_
  rintro _ w9 ⟨rfl, hb9⟩
  have hb := hb.trans (hb9.mono hb.size)
  go_wp2
  go_ret
  exact ⟨ret_bool (by first | rfl | (cases v <;> rfl)), hb⟩

set_option maxHeartbeats 400000 in
theorem lawB_b1 (x y D R : Int) (v : Bool) (w : World) (hx0 : 0 ≤ x) (hx1 : x < 18446744073709551616) (hy0 : 0 ≤ y) (hy1 : y < 18446744073709551616) (hD0 : 10 < D) (hD1 : 64 ≤ D) (hD2 : D ≤ 64) (hR0 : 0 ≤ R) (hR1 : R ≤ 64) (h54 : 64 ≤ 10 + R) (h54b : 10 + R ≤ 64)
    (A5 : Hid (Five x R)) (NL : Hid (At x (10 + R) true)) (NH : Hid (At x D v)) (NS : Hid (Spl x y D v)) :
    Calls Try.prog 4 #[.int .u64 x, .int .u64 y, .int .u64 D] w fun e w' => e = .returned (.bool true) ∧ Below w.heap.size w w' := by
  have hdi : D ≤ 64 := by omega
  go_enter Try.func4, Try.ntmps4
  go_wp2_with fail
  refine (A5.out _).mono ?_
  rintro _ _ ⟨rfl, rfl⟩
  go_wp2_with fail
  refine (NL.out _).mono ?_
  rintro _ w1 ⟨rfl, hb⟩
  go_wp2_with fail
  refine (NH.out _).mono ?_
  rintro _ w3 ⟨rfl, hb3⟩
  have hb := hb.trans (hb3.mono hb.size)
  go_wp2_with fail
  refine (NS.out _ (mask_big (by omega) (by omega)) _).mono ?_
  rintro _ w9 ⟨rfl, hb9⟩
  have hb := hb.trans (hb9.mono hb.size)
  go_wp2
  go_ret
  exact ⟨ret_bool (by first | rfl | (cases v <;> rfl)), hb⟩

set_option maxHeartbeats 400000 in
theorem lawB_b2 (x y D R : Int) (w : World) (hx0 : 0 ≤ x) (hx1 : x < 18446744073709551616) (hy0 : 0 ≤ y) (hy1 : y < 18446744073709551616) (hD0 : 10 < D) (hD1 : D < 64) (hR0 : 0 ≤ R) (hR1 : R ≤ 64) (h54 : 64 ≤ 10 + R) (h54b : 10 + R ≤ 64)
    (A5 : Hid (Five x R)) (NL : Hid (At x (10 + R) true)) (NH : Hid (At x D true)) (NH1 : Hid (At x (D + 1) true)) (NS : Hid (Spl x y D true)) :
    Calls Try.prog 4 #[.int .u64 x, .int .u64 y, .int .u64 D] w fun e w' => e = .returned (.bool true) ∧ Below w.heap.size w w' := by
  have hdi : D ≤ 64 := by omega
  go_enter Try.func4, Try.ntmps4
  go_wp2_with fail
  refine (A5.out _).mono ?_
  rintro _ _ ⟨rfl, rfl⟩
  go_wp2_with fail
  refine (NL.out _).mono ?_
  rintro _ w1 ⟨rfl, hb⟩
  go_wp2_with fail
  refine (NH.out _).mono ?_
  rintro _ w3 ⟨rfl, hb3⟩
  have hb := hb.trans (hb3.mono hb.size)
  go_wp2_with fail
  refine (NH1.out _).mono ?_
  rintro _ w4 ⟨rfl, hb4⟩
  have hb := hb.trans (hb4.mono hb.size)
  go_wp2_with fail
  refine (NS.out _ (mask_big (by omega) (by omega)) _).mono ?_
  rintro _ w9 ⟨rfl, hb9⟩
  have hb := hb.trans (hb9.mono hb.size)
  go_wp2
  go_ret
  exact ⟨ret_bool (by first | rfl | (cases v <;> rfl)), hb⟩

set_option maxHeartbeats 400000 in
theorem lawB_b3 (x y D R : Int) (v : Bool) (w : World) (hx0 : 0 ≤ x) (hx1 : x < 18446744073709551616) (hy0 : 0 ≤ y) (hy1 : y < 18446744073709551616) (hD0 : 10 < D) (hD1 : D < 64) (hR0 : 0 ≤ R) (hR1 : R ≤ 64) (h54 : 64 ≤ 10 + R) (h54b : 10 + R ≤ 64)
    (A5 : Hid (Five x R)) (NL : Hid (At x (10 + R) true)) (NH : Hid (At x D v)) (NH1 : Hid (At x (D + 1) false)) (NS : Hid (Spl x y D v)) :
    Calls Try.prog 4 #[.int .u64 x, .int .u64 y, .int .u64 D] w fun e w' => e = .returned (.bool true) ∧ Below w.heap.size w w' := by
  have hdi : D ≤ 64 := by omega
  go_enter Try.func4, Try.ntmps4
  go_wp2_with fail
  refine (A5.out _).mono ?_
  rintro _ _ ⟨rfl, rfl⟩
  go_wp2_with fail
  refine (NL.out _).mono ?_
  rintro _ w1 ⟨rfl, hb⟩
  go_wp2_with fail
  refine (NH.out _).mono ?_
  rintro _ w3 ⟨rfl, hb3⟩
  have hb := hb.trans (hb3.mono hb.size)
  go_wp2_with fail
  refine (NH1.out _).mono ?_
  rintro _ w4 ⟨rfl, hb4⟩
  have hb := hb.trans (hb4.mono hb.size)
  go_wp2_with fail
  refine (NS.out _ (mask_big (by omega) (by omega)) _).mono ?_
  rintro _ w9 ⟨rfl, hb9⟩
  have hb := hb.trans (hb9.mono hb.size)
  go_wp2
  go_ret
  exact ⟨ret_bool (by first | rfl | (cases v <;> rfl)), hb⟩

set_option maxHeartbeats 400000 in
theorem lawB_b4 (x y D R : Int) (w : World) (hx0 : 0 ≤ x) (hx1 : x < 18446744073709551616) (hy0 : 0 ≤ y) (hy1 : y < 18446744073709551616) (hD0 : 0 ≤ D) (hD1 : D ≤ 10) (hR0 : 0 ≤ R) (hR1 : R ≤ 64) (h54 : 64 ≤ 10 + R) (h54b : 10 + R ≤ 64)
    (A5 : Hid (Five x R)) (NL : Hid (At x (10 + R) true)) (NH : Hid (At x D true)) (NH1 : Hid (At x (D + 1) true)) (NS : Hid (Spl x y D true)) :
    Calls Try.prog 4 #[.int .u64 x, .int .u64 y, .int .u64 D] w fun e w' => e = .returned (.bool true) ∧ Below w.heap.size w w' := by
  have hdi : D ≤ 64 := by omega
  go_enter Try.func4, Try.ntmps4
  go_wp2_with fail
  refine (A5.out _).mono ?_
  rintro _ _ ⟨rfl, rfl⟩
  go_wp2_with fail
  refine (NL.out _).mono ?_
  rintro _ w1 ⟨rfl, hb⟩
  go_wp2_with fail
  refine (NH.out _).mono ?_
  rintro _ w3 ⟨rfl, hb3⟩
  have hb := hb.trans (hb3.mono hb.size)
  go_wp2_with fail
  refine (NH1.out _).mono ?_
  rintro _ w4 ⟨rfl, hb4⟩
  have hb := hb.trans (hb4.mono hb.size)
  go_wp2_with fail
  refine (NS.out _ (mask_low (by omega)) _).mono ?_
  rintro _ w9 ⟨rfl, hb9⟩
  have hb := hb.trans (hb9.mono hb.size)
  go_wp2
  go_ret
  exact ⟨ret_bool (by first | rfl | (cases v <;> rfl)), hb⟩

set_option maxHeartbeats 400000 in
theorem lawB_b5 (x y D R : Int) (v : Bool) (w : World) (hx0 : 0 ≤ x) (hx1 : x < 18446744073709551616) (hy0 : 0 ≤ y) (hy1 : y < 18446744073709551616) (hD0 : 0 ≤ D) (hD1 : D ≤ 10) (hR0 : 0 ≤ R) (hR1 : R ≤ 64) (h54 : 64 ≤ 10 + R) (h54b : 10 + R ≤ 64)
    (A5 : Hid (Five x R)) (NL : Hid (At x (10 + R) true)) (NH : Hid (At x D v)) (NH1 : Hid (At x (D + 1) false)) (NS : Hid (Spl x y D v)) :
    Calls Try.prog 4 #[.int .u64 x, .int .u64 y, .int .u64 D] w fun e w' => e = .returned (.bool true) ∧ Below w.heap.size w w' := by
  have hdi : D ≤ 64 := by omega
  go_enter Try.func4, Try.ntmps4
  go_wp2_with fail
  refine (A5.out _).mono ?_
  rintro _ _ ⟨rfl, rfl⟩
  go_wp2_with fail
  refine (NL.out _).mono ?_
  rintro _ w1 ⟨rfl, hb⟩
  go_wp2_with fail
  refine (NH.out _).mono ?_
  rintro _ w3 ⟨rfl, hb3⟩
  have hb := hb.trans (hb3.mono hb.size)
  go_wp2_with fail
  refine (NH1.out _).mono ?_
  rintro _ w4 ⟨rfl, hb4⟩
  have hb := hb.trans (hb4.mono hb.size)
  go_wp2_with fail
  refine (NS.out _ (mask_low (by omega)) _).mono ?_
  rintro _ w9 ⟨rfl, hb9⟩
  have hb := hb.trans (hb9.mono hb.size)
  go_wp2
  go_ret
  exact ⟨ret_bool (by first | rfl | (cases v <;> rfl)), hb⟩

set_option maxHeartbeats 400000 in
theorem lawB_c1 (x y D R : Int) (v : Bool) (w : World) (hx0 : 0 ≤ x) (hx1 : x < 18446744073709551616) (hy0 : 0 ≤ y) (hy1 : y < 18446744073709551616) (hD0 : 10 < D) (hD1 : 64 ≤ D) (hD2 : D ≤ 64) (hR0 : 0 ≤ R) (hR1 : R ≤ 64) (h54 : 10 + R < 64)
    (A5 : Hid (Five x R)) (NL : Hid (At x (10 + R) true)) (NL1 : Hid (At x (10 + R + 1) false)) (NH : Hid (At x D v)) (NS : Hid (Spl x y D v)) :
    Calls Try.prog 4 #[.int .u64 x, .int .u64 y, .int .u64 D] w fun e w' => e = .returned (.bool true) ∧ Below w.heap.size w w' := by
  have hdi : D ≤ 64 := by omega
  have hR2 : 10 + R ≤ 64 := by omega
  go_enter Try.func4, Try.ntmps4
  go_wp2_with fail
  refine (A5.out _).mono ?_
  rintro _ _ ⟨rfl, rfl⟩
  go_wp2_with fail
  refine (NL.out _).mono ?_
  rintro _ w1 ⟨rfl, hb⟩
  go_wp2_with fail
  refine (NL1.out _).mono ?_
  rintro _ w2 ⟨rfl, hb2⟩
  have hb := hb.trans (hb2.mono hb.size)
  go_wp2_with fail
  refine (NH.out _).mono ?_
  rintro _ w3 ⟨rfl, hb3⟩
  have hb := hb.trans (hb3.mono hb.size)
  go_wp2_with fail
  refine (NS.out _ (mask_big (by omega) (by omega)) _).mono ?_
  rintro _ w9 ⟨rfl, hb9⟩
  have hb := hb.trans (hb9.mono hb.size)
  go_wp2
  go_ret
  exact ⟨ret_bool (by first | rfl | (cases v <;> rfl)), hb⟩

set_option maxHeartbeats 400000 in
theorem lawB_c2 (x y D R : Int) (w : World) (hx0 : 0 ≤ x) (hx1 : x < 18446744073709551616) (hy0 : 0 ≤ y) (hy1 : y < 18446744073709551616) (hD0 : 10 < D) (hD1 : D < 64) (hR0 : 0 ≤ R) (hR1 : R ≤ 64) (h54 : 10 + R < 64)
    (A5 : Hid (Five x R)) (NL : Hid (At x (10 + R) true)) (NL1 : Hid (At x (10 + R + 1) false)) (NH : Hid (At x D true)) (NH1 : Hid (At x (D + 1) true)) (NS : Hid (Spl x y D true)) :
    Calls Try.prog 4 #[.int .u64 x, .int .u64 y, .int .u64 D] w fun e w' => e = .returned (.bool true) ∧ Below w.heap.size w w' := by
  have hdi : D ≤ 64 := by omega
  have hR2 : 10 + R ≤ 64 := by omega
  go_enter Try.func4, Try.ntmps4
  go_wp2_with fail
  refine (A5.out _).mono ?_
  rintro _ _ ⟨rfl, rfl⟩
  go_wp2_with fail
  refine (NL.out _).mono ?_
  rintro _ w1 ⟨rfl, hb⟩
  go_wp2_with fail
  refine (NL1.out _).mono ?_
  rintro _ w2 ⟨rfl, hb2⟩
  have hb := hb.trans (hb2.mono hb.size)
  go_wp2_with fail
  refine (NH.out _).mono ?_
  rintro _ w3 ⟨rfl, hb3⟩
  have hb := hb.trans (hb3.mono hb.size)
  go_wp2_with fail
  refine (NH1.out _).mono ?_
  rintro _ w4 ⟨rfl, hb4⟩
  have hb := hb.trans (hb4.mono hb.size)
  go_wp2_with fail
  refine (NS.out _ (mask_big (by omega) (by omega)) _).mono ?_
  rintro _ w9 ⟨rfl, hb9⟩
  have hb := hb.trans (hb9.mono hb.size)
  go_wp2
  go_ret
  exact ⟨ret_bool (by first | rfl | (cases v <;> rfl)), hb⟩

set_option maxHeartbeats 400000 in
theorem lawB_c3 (x y D R : Int) (v : Bool) (w : World) (hx0 : 0 ≤ x) (hx1 : x < 18446744073709551616) (hy0 : 0 ≤ y) (hy1 : y < 18446744073709551616) (hD0 : 10 < D) (hD1 : D < 64) (hR0 : 0 ≤ R) (hR1 : R ≤ 64) (h54 : 10 + R < 64)
    (A5 : Hid (Five x R)) (NL : Hid (At x (10 + R) true)) (NL1 : Hid (At x (10 + R + 1) false)) (NH : Hid (At x D v)) (NH1 : Hid (At x (D + 1) false)) (NS : Hid (Spl x y D v)) :
    Calls Try.prog 4 #[.int .u64 x, .int .u64 y, .int .u64 D] w fun e w' => e = .returned (.bool true) ∧ Below w.heap.size w w' := by
  have hdi : D ≤ 64 := by omega
  have hR2 : 10 + R ≤ 64 := by omega
  go_enter Try.func4, Try.ntmps4
  go_wp2_with fail
  refine (A5.out _).mono ?_
  rintro _ _ ⟨rfl, rfl⟩
  go_wp2_with fail
  refine (NL.out _).mono ?_
  rintro _ w1 ⟨rfl, hb⟩
  go_wp2_with fail
  refine (NL1.out _).mono ?_
  rintro _ w2 ⟨rfl, hb2⟩
  have hb := hb.trans (hb2.mono hb.size)
  go_wp2_with fail
  refine (NH.out _).mono ?_
  rintro _ w3 ⟨rfl, hb3⟩
  have hb := hb.trans (hb3.mono hb.size)
  go_wp2_with fail
  refine (NH1.out _).mono ?_
  rintro _ w4 ⟨rfl, hb4⟩
  have hb := hb.trans (hb4.mono hb.size)
  go_wp2_with fail
  refine (NS.out _ (mask_big (by omega) (by omega)) _).mono ?_
  rintro _ w9 ⟨rfl, hb9⟩
  have hb := hb.trans (hb9.mono hb.size)
  go_wp2
  go_ret
  exact ⟨ret_bool (by first | rfl | (cases v <;> rfl)), hb⟩

set_option maxHeartbeats 400000 in
theorem lawB_c4 (x y D R : Int) (w : World) (hx0 : 0 ≤ x) (hx1 : x < 18446744073709551616) (hy0 : 0 ≤ y) (hy1 : y < 18446744073709551616) (hD0 : 0 ≤ D) (hD1 : D ≤ 10) (hR0 : 0 ≤ R) (hR1 : R ≤ 64) (h54 : 10 + R < 64)
    (A5 : Hid (Five x R)) (NL : Hid (At x (10 + R) true)) (NL1 : Hid (At x (10 + R + 1) false)) (NH : Hid (At x D true)) (NH1 : Hid (At x (D + 1) true)) (NS : Hid (Spl x y D true)) :
    Calls Try.prog 4 #[.int .u64 x, .int .u64 y, .int .u64 D] w fun e w' => e = .returned (.bool true) ∧ Below w.heap.size w w' := by
  have hdi : D ≤ 64 := by omega
  have hR2 : 10 + R ≤ 64 := by omega
  go_enter Try.func4, Try.ntmps4
  go_wp2_with fail
  refine (A5.out _).mono ?_
  rintro _ _ ⟨rfl, rfl⟩
  go_wp2_with fail
  refine (NL.out _).mono ?_
  rintro _ w1 ⟨rfl, hb⟩
  go_wp2_with fail
  refine (NL1.out _).mono ?_
  rintro _ w2 ⟨rfl, hb2⟩
  have hb := hb.trans (hb2.mono hb.size)
  go_wp2_with fail
  refine (NH.out _).mono ?_
  rintro _ w3 ⟨rfl, hb3⟩
  have hb := hb.trans (hb3.mono hb.size)
  go_wp2_with fail
  refine (NH1.out _).mono ?_
  rintro _ w4 ⟨rfl, hb4⟩
  have hb := hb.trans (hb4.mono hb.size)
  go_wp2_with fail
  refine (NS.out _ (mask_low (by omega)) _).mono ?_
  rintro _ w9 ⟨rfl, hb9⟩
  have hb := hb.trans (hb9.mono hb.size)
  go_wp2
  go_ret
  exact ⟨ret_bool (by first | rfl | (cases v <;> rfl)), hb⟩

set_option maxHeartbeats 400000 in
theorem lawB_c5 (x y D R : Int) (v : Bool) (w : World) (hx0 : 0 ≤ x) (hx1 : x < 18446744073709551616) (hy0 : 0 ≤ y) (hy1 : y < 18446744073709551616) (hD0 : 0 ≤ D) (hD1 : D ≤ 10) (hR0 : 0 ≤ R) (hR1 : R ≤ 64) (h54 : 10 + R < 64)
    (A5 : Hid (Five x R)) (NL : Hid (At x (10 + R) true)) (NL1 : Hid (At x (10 + R + 1) false)) (NH : Hid (At x D v)) (NH1 : Hid (At x (D + 1) false)) (NS : Hid (Spl x y D v)) :
    Calls Try.prog 4 #[.int .u64 x, .int .u64 y, .int .u64 D] w fun e w' => e = .returned (.bool true) ∧ Below w.heap.size w w' := by
  have hdi : D ≤ 64 := by omega
  have hR2 : 10 + R ≤ 64 := by omega
  go_enter Try.func4, Try.ntmps4
  go_wp2_with fail
  refine (A5.out _).mono ?_
  rintro _ _ ⟨rfl, rfl⟩
  go_wp2_with fail
  refine (NL.out _).mono ?_
  rintro _ w1 ⟨rfl, hb⟩
  go_wp2_with fail
  refine (NL1.out _).mono ?_
  rintro _ w2 ⟨rfl, hb2⟩
  have hb := hb.trans (hb2.mono hb.size)
  go_wp2_with fail
  refine (NH.out _).mono ?_
  rintro _ w3 ⟨rfl, hb3⟩
  have hb := hb.trans (hb3.mono hb.size)
  go_wp2_with fail
  refine (NH1.out _).mono ?_
  rintro _ w4 ⟨rfl, hb4⟩
  have hb := hb.trans (hb4.mono hb.size)
  go_wp2_with fail
  refine (NS.out _ (mask_low (by omega)) _).mono ?_
  rintro _ w9 ⟨rfl, hb9⟩
  have hb := hb.trans (hb9.mono hb.size)
  go_wp2
  go_ret
  exact ⟨ret_bool (by first | rfl | (cases v <;> rfl)), hb⟩

/-! ### the run is there, and it is one -/
theorem run_ex (X : Nat) : ∀ n, ∃ r, r ≤ n ∧ same X r ∧ (r < n → X.testBit r ≠ X.testBit 0)
  | 0 => ⟨0, Nat.le_refl _, same_zero X, fun h => absurd h (Nat.lt_irrefl _)⟩
  | n + 1 => by
    obtain ⟨r, h1, h2, h3⟩ := run_ex X n
    by_cases hr : r < n
    · exact ⟨r, by omega, h2, fun _ => h3 hr⟩
    · obtain rfl : r = n := by omega
      by_cases hb : X.testBit r = X.testBit 0
      · exact ⟨r + 1, Nat.le_refl _, same_succ h2 hb, fun h => absurd h (Nat.lt_irrefl _)⟩
      · exact ⟨r, by omega, h2, fun _ => hb⟩
theorem run_one {X r s : Nat} (h : Run X r) (k : Run X s) : r = s := by
  have h1 := (h.iff k.le).1 k.same
  have h2 := (k.iff h.le).1 h.same
  omega
theorem five {X r : Nat} (hX : X < 18446744073709551616) (h : Run X r) : Five (X : Int) (r : Int) := fun w => by
  refine (run5 X w hX).mono ?_
  rintro _ _ ⟨s, rfl, hs, rfl⟩
  rw [run_one hs h]
  exact ⟨rfl, rfl⟩
theorem at_of {X e : Nat} {x d : Int} {v : Bool} (hX : X < 18446744073709551616) (he : e ≤ 64) (hv : near X e = v) (hx : x = (X : Int)) (hd : d = (e : Int)) : At x d v := fun w => near_at X e v x d w hX he hv hx hd
theorem spl_of {X Y d : Nat} {v : Bool} (hX : X < 18446744073709551616) (hY : Y < 18446744073709551616) (hd : d ≤ 64) (hv : near X d = v) : Spl (X : Int) (Y : Int) (d : Int) v := fun m hm => by
  have e : ((d : Int) - 10).toNat = d - 10 := by omega
  rw [e] at hm
  exact at_of (spl_lt (k := d - 10) hX hY) hd (hv_spl hv) (spl_eq X Y d m hX hY hm hd) rfl

theorem lawB (X Y d : Nat) (w : World) (hX : X < 18446744073709551616) (hY : Y < 18446744073709551616) (hd : d ≤ 64) :
    Calls Try.prog 4 #[.int .u64 (X : Int), .int .u64 (Y : Int), .int .u64 (d : Int)] w fun e w' => e = .returned (.bool true) ∧ Below w.heap.size w w' := by
  obtain ⟨r, h1, h2, h3⟩ := run_ex X 64
  have hr : Run X r := ⟨h1, h2, h3⟩
  have A5 := five hX hr
  have near_le : ∀ e, e ≤ 64 → (near X e = true ↔ e ≤ 10 + r) := fun e he => by
    rw [near_iff, hr.iff (by omega)]
    omega
  have near_gt : ∀ e, e ≤ 64 → (near X e = false ↔ 10 + r < e) := fun e he => by
    rw [Bool.eq_false_iff, Ne, near_le e he]
    omega
  have NH : ∀ v, near X d = v → At (X : Int) (d : Int) v := fun v hv => at_of hX hd hv rfl rfl
  have NS : ∀ v, near X d = v → Spl (X : Int) (Y : Int) (d : Int) v := fun v hv => spl_of hX hY hd hv
  have NH1 : ∀ v, d + 1 ≤ 64 → near X (d + 1) = v → At (X : Int) ((d : Int) + 1) v := fun v he hv => at_of hX he hv rfl (by omega)
  obtain ⟨v, hv⟩ : ∃ v, near X d = v := ⟨_, rfl⟩
  by_cases ha : 64 < 10 + r
  · have NL : At (X : Int) 64 true := at_of hX (Nat.le_refl 64) ((near_le 64 (by omega)).2 (by omega)) rfl rfl
    by_cases h64 : d = 64
    · exact lawB_a1 (X : Int) (Y : Int) (d : Int) (r : Int) v w (by omega) (by omega) (by omega) (by omega) (by omega) (by omega) (by omega) (by omega) (by omega) (by omega) A5 NL (NH _ hv) (NS _ hv)
    · by_cases h10 : d ≤ 10
      · cases hv1 : near X (d + 1) with
        | true => exact lawB_a4 (X : Int) (Y : Int) (d : Int) (r : Int) w (by omega) (by omega) (by omega) (by omega) (by omega) (by omega) (by omega) (by omega) (by omega) A5 NL (NH _ (near_back hv1)) (NH1 _ (by omega) hv1) (NS _ (near_back hv1))
        | false => exact lawB_a5 (X : Int) (Y : Int) (d : Int) (r : Int) v w (by omega) (by omega) (by omega) (by omega) (by omega) (by omega) (by omega) (by omega) (by omega) A5 NL (NH _ hv) (NH1 _ (by omega) hv1) (NS _ hv)
      · cases hv1 : near X (d + 1) with
        | true => exact lawB_a2 (X : Int) (Y : Int) (d : Int) (r : Int) w (by omega) (by omega) (by omega) (by omega) (by omega) (by omega) (by omega) (by omega) (by omega) A5 NL (NH _ (near_back hv1)) (NH1 _ (by omega) hv1) (NS _ (near_back hv1))
        | false => exact lawB_a3 (X : Int) (Y : Int) (d : Int) (r : Int) v w (by omega) (by omega) (by omega) (by omega) (by omega) (by omega) (by omega) (by omega) (by omega) A5 NL (NH _ hv) (NH1 _ (by omega) hv1) (NS _ hv)
  · have NL : At (X : Int) (10 + (r : Int)) true := at_of (e := 10 + r) hX (by omega) ((near_le _ (by omega)).2 (by omega)) rfl (by omega)
    by_cases hb : 10 + r = 64
    · skip
      by_cases h64 : d = 64
      · exact lawB_b1 (X : Int) (Y : Int) (d : Int) (r : Int) v w (by omega) (by omega) (by omega) (by omega) (by omega) (by omega) (by omega) (by omega) (by omega) (by omega) (by omega) A5 NL (NH _ hv) (NS _ hv)
      · by_cases h10 : d ≤ 10
        · cases hv1 : near X (d + 1) with
          | true => exact lawB_b4 (X : Int) (Y : Int) (d : Int) (r : Int) w (by omega) (by omega) (by omega) (by omega) (by omega) (by omega) (by omega) (by omega) (by omega) (by omega) A5 NL (NH _ (near_back hv1)) (NH1 _ (by omega) hv1) (NS _ (near_back hv1))
          | false => exact lawB_b5 (X : Int) (Y : Int) (d : Int) (r : Int) v w (by omega) (by omega) (by omega) (by omega) (by omega) (by omega) (by omega) (by omega) (by omega) (by omega) A5 NL (NH _ hv) (NH1 _ (by omega) hv1) (NS _ hv)
        · cases hv1 : near X (d + 1) with
          | true => exact lawB_b2 (X : Int) (Y : Int) (d : Int) (r : Int) w (by omega) (by omega) (by omega) (by omega) (by omega) (by omega) (by omega) (by omega) (by omega) (by omega) A5 NL (NH _ (near_back hv1)) (NH1 _ (by omega) hv1) (NS _ (near_back hv1))
          | false => exact lawB_b3 (X : Int) (Y : Int) (d : Int) (r : Int) v w (by omega) (by omega) (by omega) (by omega) (by omega) (by omega) (by omega) (by omega) (by omega) (by omega) A5 NL (NH _ hv) (NH1 _ (by omega) hv1) (NS _ hv)
    · have NL1 : At (X : Int) (10 + (r : Int) + 1) false := at_of (e := 10 + r + 1) hX (by omega) ((near_gt _ (by omega)).2 (by omega)) rfl (by omega)
      by_cases h64 : d = 64
      · exact lawB_c1 (X : Int) (Y : Int) (d : Int) (r : Int) v w (by omega) (by omega) (by omega) (by omega) (by omega) (by omega) (by omega) (by omega) (by omega) (by omega) A5 NL NL1 (NH _ hv) (NS _ hv)
      · by_cases h10 : d ≤ 10
        · cases hv1 : near X (d + 1) with
          | true => exact lawB_c4 (X : Int) (Y : Int) (d : Int) (r : Int) w (by omega) (by omega) (by omega) (by omega) (by omega) (by omega) (by omega) (by omega) (by omega) A5 NL NL1 (NH _ (near_back hv1)) (NH1 _ (by omega) hv1) (NS _ (near_back hv1))
          | false => exact lawB_c5 (X : Int) (Y : Int) (d : Int) (r : Int) v w (by omega) (by omega) (by omega) (by omega) (by omega) (by omega) (by omega) (by omega) (by omega) A5 NL NL1 (NH _ hv) (NH1 _ (by omega) hv1) (NS _ hv)
        · cases hv1 : near X (d + 1) with
          | true => exact lawB_c2 (X : Int) (Y : Int) (d : Int) (r : Int) w (by omega) (by omega) (by omega) (by omega) (by omega) (by omega) (by omega) (by omega) (by omega) A5 NL NL1 (NH _ (near_back hv1)) (NH1 _ (by omega) hv1) (NS _ (near_back hv1))
          | false => exact lawB_c3 (X : Int) (Y : Int) (d : Int) (r : Int) v w (by omega) (by omega) (by omega) (by omega) (by omega) (by omega) (by omega) (by omega) (by omega) A5 NL NL1 (NH _ hv) (NH1 _ (by omega) hv1) (NS _ hv)
end Go.Proofs.Qxb6630206a
