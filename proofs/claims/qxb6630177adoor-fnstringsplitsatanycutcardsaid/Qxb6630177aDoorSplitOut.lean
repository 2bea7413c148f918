/-
  Seat b6630177aD: FnStringSplitsAtAnyCut, the ways out ahead of the texts.
-/
import Derived.Test.Qxb6630177aDoorEdge
import Derived.Deep.RegionHeld3
namespace Go.Proofs.Qxb6630177aDoor
open Go.RowKit Go.Lib
set_option linter.unusedVariables false      -- the tests of the walk use the bounds from the context

/-- an unfit length -/
theorem split_edge (a1 a2 a3 : Option Addr) (n1 n2 n3 c1 c2 c3 : Nat) (q : Int) (w : World) (hbad : ¬ ((n1 : Int) ≤ 65536 ∧ (n2 : Int) = (n1 : Int) ∧ (n3 : Int) = (n1 : Int))) :
    Calls Tryd.prog 4 #[.slice a1 n1 c1, .slice a2 n2 c2, .slice a3 n3 c3, .int .i64 q] w fun e w' => e = .returned (.bool true) ∧ Below w.heap.size w w' := by
  have A := Lib.hid (bytes11_any a1 a2 a3 n1 n2 n3 c1 c2 c3 q w)
  by_cases h1 : (65536 : Int) < (n1 : Int)
  · clear hbad
    go_enter Tryd.func4, Tryd.ntmps4
    go_wp2_with fail
    refine A.out.mono ?_
    rintro _ _ ⟨b, rfl, rfl⟩
    cases b <;> (go_wp2; go_ret; exact ⟨rfl, Below.refl _ _⟩)
  by_cases h2 : (65536 : Int) < (n2 : Int)
  · clear hbad
    go_enter Tryd.func4, Tryd.ntmps4
    go_wp2_with fail
    refine A.out.mono ?_
    rintro _ _ ⟨b, rfl, rfl⟩
    cases b <;> (go_wp2; go_ret; exact ⟨rfl, Below.refl _ _⟩)
  by_cases h3 : (65536 : Int) < (n3 : Int)
  · clear hbad
    go_enter Tryd.func4, Tryd.ntmps4
    go_wp2_with fail
    refine A.out.mono ?_
    rintro _ _ ⟨b, rfl, rfl⟩
    cases b <;> (go_wp2; go_ret; exact ⟨rfl, Below.refl _ _⟩)
  by_cases h4 : (n2 : Int) = (n1 : Int)
  · have h5 : ((n3 : Int) == (n1 : Int)) = false := by rw [beq_eq_false_iff_ne]; omega
    obtain rfl : n2 = n1 := by omega
    clear hbad h4
    go_enter Tryd.func4, Tryd.ntmps4
    go_wp2_with fail
    refine A.out.mono ?_
    rintro _ _ ⟨b, rfl, rfl⟩
    cases b <;> (go_wp2; go_ret; exact ⟨rfl, Below.refl _ _⟩)
  · have h5 : ((n2 : Int) == (n1 : Int)) = false := by rw [beq_eq_false_iff_ne]; exact h4
    clear hbad h4
    go_enter Tryd.func4, Tryd.ntmps4
    go_wp2_with fail
    refine A.out.mono ?_
    rintro _ _ ⟨b, rfl, rfl⟩
    cases b <;> (go_wp2; go_ret; exact ⟨rfl, Below.refl _ _⟩)

/-! ### the cut is out of range -/
set_option maxRecDepth 1000000 in
set_option maxHeartbeats 16000000 in
theorem split_out (a1 a2 a3 : Option Addr) (n c1 c2 c3 : Nat) (D S Q : Nat → Nat) (w : World) (hn : (n : Int) ≤ 65536) (q : Int) (hq : q < 0 ∨ (n : Int) < q) (h1 : Ints .u32 w a1 n D) (h2 : Ints .u32 w a2 n S) (h3 : Ints .u64 w a3 n Q)
    (hf : Fit n D S Q) (htab : TabIs Tryd.prog w pow10Name .u64 pow10Tab) :
    Calls Tryd.prog 4 #[.slice a1 n c1, .slice a2 n c2, .slice a3 n c3, .int .i64 q] w fun e w' => e = .returned (.bool true) ∧ Below w.heap.size w w' := by
  have hq22 := fun (w : World) (a : Option Addr) (n c n' c' : Nat) => run_neq_slice_nil_any (P := Tryd.prog) w 22 36 a n c n' c' Tryd.underlying22
  have hq23 := fun (w : World) (a : Option Addr) (n c n' c' : Nat) => run_neq_slice_nil_any (P := Tryd.prog) w 23 33 a n c n' c' Tryd.underlying23
  have HI := Lib.hid (And.intro h1 (And.intro h2 h3))
  have HF := Lib.hid hf
  have HT := Lib.hid (tabBelow_of_tabIs htab)
  clear h1 h2 h3 hf htab
  go_enter Tryd.func4, Tryd.ntmps4
  go_wp2_with fail
  refine (bytes11 _ _ _ _ _ _ _ _ _ hn).mono ?_
  rintro _ _ ⟨rfl, rfl⟩
  go_upto_if 46 with fail
  go_cut [0] (fun s0 wx => ∃ ao' c', s0 = .slice ao' n c' ∧ n ≤ c' ∧ Ints .u32 wx ao' n D ∧ Below w.heap.size w wx)
  case first =>
    rcases a1 with _ | ad
    · go_wp2
      go_meet
      case rel => exact ⟨none, c1, rfl, Ints.none_le HI.out.1 _, HI.out.1, Below.refl _ _⟩
    · have hmk := run_make22 n hn
      go_upto_region 13 with fail
      go_wp2_with (refine wpList_copy_splice rfl (.tmp 50) (.tmp 51) 22 22 rfl 36 Tryd.underlying22 Tryd.size36 (some ⟨w.heap.size, 0, none⟩) (some ad) n n n c1 rfl rfl w.heap.size 0 (List.replicate n (.int .u32 0)) 36 (made_block w n _ 36) (cells .u32 D n) (by rw [cells_length]; simp) (copy_from HI.out.1 ((Below.refl w.heap.size w).alloc (Nat.le_refl _) _)) (by rw [cells_length]; simp) (cells_one _ _ _) w.heap.size w ((Below.refl w.heap.size w).alloc (Nat.le_refl _) _) (Nat.le_refl _) ?_; intro w2 hg2 hb2)
      go_meet
      case rel => exact ⟨some ⟨w.heap.size, 0, none⟩, n, rfl, Nat.le_refl _, copy_to hg2.out, hb2⟩
  case rest =>
    rename World => wx1
    obtain ⟨a1', c1', rfl, hc1', hI1, hB1⟩ := hcut
    have HI1 := Lib.hid hI1
    clear hI1
    go_upto_if 55 with fail
    go_cut [1] (fun s0 wx => ∃ ao' c', s0 = .slice ao' n c' ∧ n ≤ c' ∧ Ints .u32 wx ao' n S ∧ Below wx1.heap.size wx1 wx)
    case first =>
      rcases a2 with _ | ad
      · go_wp2
        go_meet
        case rel => exact ⟨none, c2, rfl, Ints.none_le (HI.out.2.1.below hB1) _, (HI.out.2.1.below hB1), Below.refl _ _⟩
      · have hmk := run_make22 n hn
        go_upto_region 17 with fail
        go_wp2_with (refine wpList_copy_splice rfl (.tmp 59) (.tmp 60) 22 22 rfl 36 Tryd.underlying22 Tryd.size36 (some ⟨wx1.heap.size, 0, none⟩) (some ad) n n n c2 rfl rfl wx1.heap.size 0 (List.replicate n (.int .u32 0)) 36 (made_block wx1 n _ 36) (cells .u32 S n) (by rw [cells_length]; simp) (copy_from (HI.out.2.1.below hB1) ((Below.refl wx1.heap.size wx1).alloc (Nat.le_refl _) _)) (by rw [cells_length]; simp) (cells_one _ _ _) wx1.heap.size wx1 ((Below.refl wx1.heap.size wx1).alloc (Nat.le_refl _) _) (Nat.le_refl _) ?_; intro w2 hg2 hb2)
        go_meet
        case rel => exact ⟨some ⟨wx1.heap.size, 0, none⟩, n, rfl, Nat.le_refl _, copy_to hg2.out, hb2⟩
    case rest =>
      rename World => wx2
      obtain ⟨a2', c2', rfl, hc2', hI2, hB2⟩ := hcut
      have HI2 := Lib.hid hI2
      clear hI2
      go_upto_if 64 with fail
      go_cut [2] (fun s0 wx => ∃ ao' c', s0 = .slice ao' n c' ∧ n ≤ c' ∧ Ints .u64 wx ao' n Q ∧ Below wx2.heap.size wx2 wx)
      case first =>
        rcases a3 with _ | ad
        · go_wp2
          go_meet
          case rel => exact ⟨none, c3, rfl, Ints.none_le (HI.out.2.2.below (hB1.trans (hB2.mono hB1.size))) _, (HI.out.2.2.below (hB1.trans (hB2.mono hB1.size))), Below.refl _ _⟩
        · have hmk := run_make23 n hn
          go_upto_region 21 with fail
          go_wp2_with (refine wpList_copy_splice rfl (.tmp 68) (.tmp 69) 23 23 rfl 33 Tryd.underlying23 Tryd.size33 (some ⟨wx2.heap.size, 0, none⟩) (some ad) n n n c3 rfl rfl wx2.heap.size 0 (List.replicate n (.int .u64 0)) 33 (made_block wx2 n _ 33) (cells .u64 Q n) (by rw [cells_length]; simp) (copy_from (HI.out.2.2.below (hB1.trans (hB2.mono hB1.size))) ((Below.refl wx2.heap.size wx2).alloc (Nat.le_refl _) _)) (by rw [cells_length]; simp) (cells_one _ _ _) wx2.heap.size wx2 ((Below.refl wx2.heap.size wx2).alloc (Nat.le_refl _) _) (Nat.le_refl _) ?_; intro w2 hg2 hb2)
          go_meet
          case rel => exact ⟨some ⟨wx2.heap.size, 0, none⟩, n, rfl, Nat.le_refl _, copy_to hg2.out, hb2⟩
      case rest =>
        rename World => wx3
        obtain ⟨a3', c3', rfl, hc3', hI3, hB3⟩ := hcut
        have HI3 := Lib.hid hI3
        clear hI3
        have hB : Below w.heap.size w wx3 := (hB1.trans (hB2.mono hB1.size)).trans (hB3.mono (Nat.le_trans hB1.size hB2.size))
        clear hq22 hq23 HI1 HI2 HI3 hB1 hB2 hB3 HI
        rcases hq with hq | hq
        · go_wp2
          go_ret
          exact ⟨rfl, hB⟩
        · have hq0 : ¬ q < 0 := by omega
          go_wp2
          go_ret
          exact ⟨rfl, hB⟩
end Go.Proofs.Qxb6630177aDoor
