import Derived.Test.Qxb6630072aIns
namespace Go.Proofs.Qxb6630072a
open Go.RowKit

theorem ins_long (e y mn mx d k f t : Int) (ao : Option Addr) (n cap : Nat) (w : World) (hn : (65536 : Int) < (n : Int)) :
    Calls Try.prog 4 #[.int .i64 e, .int .i64 y, .int .i64 mn, .int .i64 mx, .slice ao n cap, .int .i64 d, .int .i64 k, .int .i64 f, .int .i64 t] w fun r w' => r = .returned (.bool true) ∧ Below w.heap.size w w' := by
  by_cases h : (1048576 : Int) < (n : Int)
  · go_enter Try.func4, Try.ntmps4
    go_wp2
    go_ret
    exact ⟨rfl, Below.refl _ _⟩
  · go_enter Try.func4, Try.ntmps4
    go_wp2
    go_ret
    exact ⟨rfl, Below.refl _ _⟩

theorem ins_out (e y mn mx d k f t : Int) (ao : Option Addr) (n cap : Nat) (w : World) (hn : (n : Int) ≤ 65536) (hk : k < 0 ∨ (n : Int) < k) :
    Calls Try.prog 4 #[.int .i64 e, .int .i64 y, .int .i64 mn, .int .i64 mx, .slice ao n cap, .int .i64 d, .int .i64 k, .int .i64 f, .int .i64 t] w fun r w' => r = .returned (.bool true) ∧ Below w.heap.size w w' := by
  rcases hk with hk | hk
  · go_enter Try.func4, Try.ntmps4
    go_wp2
    go_ret
    exact ⟨rfl, Below.refl _ _⟩
  · have hk0 : ¬ k < 0 := by omega
    go_enter Try.func4, Try.ntmps4
    go_wp2
    go_ret
    exact ⟨rfl, Below.refl _ _⟩

set_option maxHeartbeats 2000000 in
theorem ins_nil (e y mn mx d f t : Int) (F T : Nat → Int) (w : World)
    (vb va : Bool) (h1 : openB y d F T 0 = vb) (h2 : openB y d (put F 0 f) (put T 0 t) 1 = va) 
    (hres : (if y ≤ 0 then (vb && va) else if f ≤ d ∧ d ≤ t then va else (va == vb)) = true) :
    Calls Try.prog 4 #[.int .i64 e, .int .i64 y, .int .i64 mn, .int .i64 mx, .slice none 0 0, .int .i64 d, .int .i64 0, .int .i64 f, .int .i64 t] w fun r w' => r = .returned (.bool true) ∧ Below w.heap.size w w' := by
  have HH : Hid ((openB y d F T 0 = vb) ∧ (openB y d (put F 0 f) (put T 0 t) 1 = va) ∧ ((if y ≤ 0 then (vb && va) else if f ≤ d ∧ d ≤ t then va else (va == vb)) = true)) := ⟨h1, h2, hres⟩
  clear h1 h2 hres
  obtain ⟨i0, hi, hz0, hz1, hz2⟩ := info_parts Try.info32
  have HI : Hid (Try.prog.info? 32 = some i0 ∧ i0.zero = some (.agg #[.int .i64 0, .int .i64 0]) ∧ i0.size = 2 ∧ i0.bytes = 16) := ⟨hi, hz0, hz1, hz2⟩
  clear hi hz0 hz1 hz2
  go_enter Try.func4, Try.ntmps4
  go_wp2_with fail
  refine (bytes8 _ _ _ _ _ _ _ _ _ _ _ _ (by omega)).mono ?_
  rintro _ _ ⟨rfl, rfl⟩
  go_wp2_with fail
  refine (toOpen_nil _).mono ?_
  rintro _ _ ⟨rfl, rfl⟩
  go_wp2_with fail
  refine (openOn_all e y mn mx d none 0 0 _ _ vb _ (by omega) HH.out.1 (.inl rfl)).mono ?_
  rintro _ w2 ⟨rfl, hb2⟩
  have bx2 := (Box.new w (.int .i64 e) (.int .i64 y) (.int .i64 mn) (.int .i64 mx) 26).below hb2 (by simp)
  have hB2 : Below w.heap.size w w2 := ((Below.refl _ _).alloc (Nat.le_refl _) _).trans (hb2.mono (by simp))
  have hs2 : w.heap.size < w2.heap.size := by have := hb2.size; simp at this; omega
  clear hb2
  go_wp2_with (at_make; refine wpList_make_own _ rfl _ _ 27 rfl w2.heap.size 32 i0 (.agg #[.int .i64 0, .int .i64 0]) 2 Try.underlying27 HI.out.1 HI.out.2.1 HI.out.2.2.1 .i64 .i64 _ 1 rfl rfl (by omega) (by rw [HI.out.2.2.2]; omega) (by unfold maxLen; omega) (Nat.le_refl _) ?_; intro w3 hown3 hgr3)
  have hb3 : Below w2.heap.size w2 w3 := (Below.refl _ _).grown hgr3 (Nat.le_refl _) (by intro _ h; cases h)
  have HO := hid hown3
  clear hgr3 hown3
  refine wp_loop_rounds 1 ?_
  rw [rounds_succ]
  go_wp2_with (at_builtin; refine wpList_append_fits _ rfl (.tmp 77) (.tmp 81) 27 rfl w2.heap.size 32 i0 2 Try.underlying27 HI.out.1 HI.out.2.2.1 w2.heap.size 0 1 _ rfl (HO.out.alloc _) ⟨w3.heap.size, 0, none⟩ 1 1 [.int .i64 f, .int .i64 t] rfl rfl (cell_two_new _ _ _ _) (oneCell2 _ _) (by omega) ?_; intro w4 hown4 hgr4)
  have R : Below w2.heap.size w2 w4 ∧ w4.ownsRow w2.heap.size 32 2 (.slice (some ⟨w2.heap.size, 0, none⟩) 1 1) 1 (flat (put F 0 f) (put T 0 t) 1) :=
    laid_more (F := put F 0 f) (T := put T 0 t) hb3 (by rw [put_eq, put_eq]; exact hown4) hgr4
  obtain ⟨hbel, hown⟩ := R
  clear hown4 hgr4 HO hb3
  obtain ⟨q0, q1, q2, q3⟩ := bx2.below hbel hs2
  have hBr : Below w.heap.size w w4 := hB2.trans (hbel.mono (by omega))
  have A := hid (openOn_all e y mn mx d (some ⟨w2.heap.size, 0, none⟩) 1 1 (put F 0 f) (put T 0 t) va w4 (by omega) HH.out.2.1 (.inr ⟨_, _, rfl, by have := World.block_lt_of_cell? _ _ (owned_pairs hown 0 (by omega)).1; exact this, owned_pairs hown⟩))
  clear hown
  refine wp_loop_rounds 1 ?_
  rw [rounds_succ]
  go_wp2_with fail
  refine A.out.mono ?_
  rintro _ w6 ⟨rfl, hb6⟩
  have hB6 : Below w.heap.size w w6 := hBr.trans (hb6.mono hBr.size)
  have hres := HH.out.2.2
  clear hb6 hBr A HH q0 q1 q2 q3
  by_cases hy : y ≤ 0
  · rw [if_pos hy] at hres
    simp only [Bool.and_eq_true] at hres
    obtain ⟨rfl, rfl⟩ := hres
    go_wp2
    go_ret
    exact ⟨rfl, hB6⟩
  · rw [if_neg hy] at hres
    by_cases hin : f ≤ d ∧ d ≤ t
    · rw [if_pos hin] at hres
      subst hres
      obtain ⟨hf, ht⟩ := hin
      go_wp2
      go_ret
      exact ⟨rfl, hB6⟩
    · rw [if_neg hin] at hres
      have hva : va = vb := by simpa using hres
      subst hva
      clear hres
      by_cases hf : f ≤ d
      · have ht : ¬ d ≤ t := by omega
        clear hin
        cases va <;> (go_wp2; go_ret; exact ⟨rfl, hB6⟩)
      · clear hin
        cases va <;> (go_wp2; go_ret; exact ⟨rfl, hB6⟩)
end Go.Proofs.Qxb6630072a
