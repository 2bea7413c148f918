import Derived.Test.Qxb6630072aJoin
namespace Go.Proofs.Qxb6630072a
open Go.RowKit

theorem join_long (e y mn mx d k : Int) (ao : Option Addr) (n cap : Nat) (w : World) (hn : (65536 : Int) < (n : Int)) :
    Calls Try.prog 3 #[.int .i64 e, .int .i64 y, .int .i64 mn, .int .i64 mx, .slice ao n cap, .int .i64 d, .int .i64 k] w fun r w' => r = .returned (.bool true) ∧ Below w.heap.size w w' := by
  by_cases h : (1048576 : Int) < (n : Int)
  · go_enter Try.func3, Try.ntmps3
    go_wp2
    go_ret
    exact ⟨rfl, Below.refl _ _⟩
  · go_enter Try.func3, Try.ntmps3
    go_wp2
    go_ret
    exact ⟨rfl, Below.refl _ _⟩

theorem join_out (e y mn mx d k : Int) (ao : Option Addr) (n cap : Nat) (w : World) (hn : (n : Int) ≤ 65536) (hk : k < 0 ∨ (n : Int) < k) :
    Calls Try.prog 3 #[.int .i64 e, .int .i64 y, .int .i64 mn, .int .i64 mx, .slice ao n cap, .int .i64 d, .int .i64 k] w fun r w' => r = .returned (.bool true) ∧ Below w.heap.size w w' := by
  rcases hk with hk | hk
  · go_enter Try.func3, Try.ntmps3
    go_wp2
    go_ret
    exact ⟨rfl, Below.refl _ _⟩
  · have hk0 : ¬ k < 0 := by omega
    go_enter Try.func3, Try.ntmps3
    go_wp2
    go_ret
    exact ⟨rfl, Below.refl _ _⟩

set_option maxHeartbeats 1000000 in
theorem join_nil (e y mn mx d : Int) (w : World) :
    Calls Try.prog 3 #[.int .i64 e, .int .i64 y, .int .i64 mn, .int .i64 mx, .slice none 0 0, .int .i64 d, .int .i64 0] w fun r w' => r = .returned (.bool true) ∧ Below w.heap.size w w' := by
  obtain ⟨v, hv⟩ : ∃ v, openB y d (fun _ => 0) (fun _ => 0) 0 = v := ⟨_, rfl⟩
  have HV := hid hv
  have HY : Hid (v = decide (y ≤ 0)) := by
    subst hv
    by_cases h : 0 < y
    · rw [openB_yes h, hit_zero]; exact (decide_eq_false (by omega)).symm
    · rw [openB_no h]; exact (decide_eq_true (by omega)).symm
  clear hv
  go_enter Try.func3, Try.ntmps3
  go_wp2_with fail
  refine (bytes5 _ _ _ _ _ _ _ _ _ _ (by omega)).mono ?_
  rintro _ _ ⟨rfl, rfl⟩
  go_wp2_with fail
  refine (toOpen_nil _).mono ?_
  rintro _ _ ⟨rfl, rfl⟩
  go_wp2_with fail
  refine (openOn_all e y mn mx d none 0 0 _ _ v _ (by omega) HV.out (.inl rfl)).mono ?_
  rintro _ w2 ⟨rfl, hb2⟩
  have bx2 := (Box.new w (.int .i64 e) (.int .i64 y) (.int .i64 mn) (.int .i64 mx) 26).below hb2 (by simp)
  have hB2 : Below w.heap.size w w2 := ((Below.refl _ _).alloc (Nat.le_refl _) _).trans (hb2.mono (by simp))
  have hs2 : w.heap.size < w2.heap.size := by have := hb2.size; simp at this; omega
  clear hb2
  obtain ⟨q0, q1, q2, q3⟩ := id bx2
  go_wp2_with fail
  have A2 := hid (openOn_all e y mn mx d none 0 0 _ _ v w2.drew (by omega) HV.out (.inl rfl))
  go_region_with (go_at_call 7; refine A2.out.mono ?_; rintro _ w3 ⟨rfl, hb3⟩)
  go_wp2_with fail
  have bx3 : Box w3 _ _ _ _ _ := bx2.below (undrew hb3) hs2
  have hB3 : Below w.heap.size w w3 := hB2.trans ((undrew hb3).mono (by omega))
  have hs3 : w.heap.size < w3.heap.size := Nat.lt_of_lt_of_le hs2 (undrew hb3).size
  clear hb3 hB2 bx2 hs2 q0 q1 q2 q3 A2
  clear w2
  obtain ⟨q0, q1, q2, q3⟩ := id bx3
  have A3 := hid (openOn_all e y mn mx d none 0 0 _ _ v w3.drew (by omega) HV.out (.inl rfl))
  go_region_with (go_at_call 7; refine A3.out.mono ?_; rintro _ w4 ⟨rfl, hb4⟩)
  go_wp2_with fail
  have bx4 : Box w4 _ _ _ _ _ := bx3.below (undrew hb4) hs3
  have hB4 : Below w.heap.size w w4 := hB3.trans ((undrew hb4).mono (by omega))
  have hs4 : w.heap.size < w4.heap.size := Nat.lt_of_lt_of_le hs3 (undrew hb4).size
  clear hb4 hB3 bx3 hs3 q0 q1 q2 q3 A3
  clear w3
  obtain ⟨q0, q1, q2, q3⟩ := id bx4
  have A4 := hid (openOn_all e y mn mx d none 0 0 _ _ v w4.drew (by omega) HV.out (.inl rfl))
  go_region_with (go_at_call 7; refine A4.out.mono ?_; rintro _ w5 ⟨rfl, hb5⟩)
  have hB5 : Below w.heap.size w w5 := hB4.trans ((undrew hb5).mono (by omega))
  clear hb5 hB4 bx4 hs4 q0 q1 q2 q3 A4 HV
  clear w4
  by_cases hy : y ≤ 0
  · obtain rfl : v = true := by rw [HY.out]; simpa using hy
    go_wp2
    go_ret
    exact ⟨rfl, hB5⟩
  · obtain rfl : v = false := by rw [HY.out]; simpa using hy
    go_wp2
    go_ret
    exact ⟨rfl, hB5⟩
end Go.Proofs.Qxb6630072a
