import Derived.Test.Qxb6630072aJoin
import Derived.Test.Qxb6630072aInsPlain
import Derived.WalkSmall
namespace Go.Proofs.Qxb6630072a
open Go.RowKit

theorem bytes8 (e y mn mx d k f t : Int) (ao : Option Addr) (n cap : Nat) (w : World) (hn : (n : Int) ≤ 65536) :
    Calls Try.prog 8 #[.int .i64 e, .int .i64 y, .int .i64 mn, .int .i64 mx, .slice ao n cap, .int .i64 d, .int .i64 k, .int .i64 f, .int .i64 t] w fun r w' => r = .returned (.bool true) ∧ w = w' := by
  go_enter Try.func8, Try.ntmps8
  go_wp2
  go_ret
  exact ⟨rfl, rfl⟩

/-- k periods, cell by cell -/
def flat (F T : Nat → Int) (k : Nat) : List Value := (List.range (k * 2)).map fun j => if j % 2 = 0 then .int .i64 (F (j / 2)) else .int .i64 (T (j / 2))
theorem flat_zero (F T : Nat → Int) : flat F T 0 = [] := rfl
theorem flat_succ (F T : Nat → Int) (k : Nat) : flat F T (k + 1) = flat F T k ++ [.int .i64 (F k), .int .i64 (T k)] := by
  unfold flat
  rw [show (k + 1) * 2 = k * 2 + 1 + 1 by omega, List.range_succ, List.range_succ, List.map_append, List.map_append, List.append_assoc]
  congr 1
  simp only [List.map_cons, List.map_nil, List.cons_append, List.nil_append]
  rw [if_pos (by omega), if_neg (by omega), show k * 2 / 2 = k by omega, show (k * 2 + 1) / 2 = k by omega]
theorem flat_fst (F T : Nat → Int) {k i : Nat} (h : i < k) : (flat F T k)[i * 2]? = some (.int .i64 (F i)) := by
  unfold flat
  rw [List.getElem?_map, List.getElem?_range (by omega), Option.map_some, if_pos (by omega), show i * 2 / 2 = i by omega]
theorem flat_snd (F T : Nat → Int) {k i : Nat} (h : i < k) : (flat F T k)[i * 2 + 1]? = some (.int .i64 (T i)) := by
  unfold flat
  rw [List.getElem?_map, List.getElem?_range (by omega), Option.map_some, if_neg (by omega), show (i * 2 + 1) / 2 = i by omega]

theorem owned_pairs {w : World} {B g n cap : Nat} {F T : Nat → Int} (h : w.ownsRow B 32 2 (.slice (some ⟨g, 0, none⟩) n cap) n (flat F T n)) :
    ∀ i, i < n → w.cell? ⟨g, 0 + i * 2, none⟩ = some (.int .i64 (F i)) ∧ w.cell? ⟨g, 0 + i * 2 + 1, none⟩ = some (.int .i64 (T i)) := by
  intro i hi
  rw [Nat.zero_add]
  exact ⟨(h.cellAt (i * 2) (by omega)).trans (flat_fst F T hi), (h.cellAt (i * 2 + 1) (by omega)).trans (flat_snd F T hi)⟩

theorem oneCell2 (x y : Int) : ∀ u ∈ [Value.int .i64 x, Value.int .i64 y], u.oneCell' = true := by
  intro u hu
  simp at hu
  rcases hu with rfl | rfl <;> rfl

/-- a round's end: one more period is laid -/
theorem laid_more {w2 wr w4 : World} {m cap : Nat} {F T : Nat → Int} {o : Obj} (hbel : Below w2.heap.size w2 wr)
    (hown : w4.ownsRow w2.heap.size 32 2 (.slice (some ⟨w2.heap.size, 0, none⟩) (m + 1) cap) (m + 1) (flat F T m ++ [.int .i64 (F m), .int .i64 (T m)])) (hg : (wr.alloc o).grownBy w4 (some w2.heap.size)) :
    Below w2.heap.size w2 w4 ∧ w4.ownsRow w2.heap.size 32 2 (.slice (some ⟨w2.heap.size, 0, none⟩) (m + 1) cap) (m + 1) (flat F T (m + 1)) := by
  refine ⟨(hbel.alloc hbel.size o).grown hg (by have := hbel.size; simp; omega) (fun j hj => by cases hj; exact Nat.le_refl _), ?_⟩
  rw [flat_succ]
  exact hown

set_option maxHeartbeats 2000000 in
theorem ins_some (e y mn mx d f t : Int) (a : Addr) (n cap k : Nat) (F T : Nat → Int) (w : World) (hn : (n : Int) ≤ 65536) (hk : k ≤ n) (hc : Lies w a n F T)
    (vb va : Bool) (h1 : openB y d F T n = vb) (h2 : openB y d (put F k f) (put T k t) (n + 1) = va) 
    (hres : (if y ≤ 0 then (vb && va) else if f ≤ d ∧ d ≤ t then va else (va == vb)) = true) :
    Calls Try.prog 4 #[.int .i64 e, .int .i64 y, .int .i64 mn, .int .i64 mx, .slice (some a) n cap, .int .i64 d, .int .i64 k, .int .i64 f, .int .i64 t] w fun r w' => r = .returned (.bool true) ∧ Below w.heap.size w w' := by
  have HH : Hid ((openB y d F T n = vb) ∧ (openB y d (put F k f) (put T k t) (n + 1) = va) ∧ ((if y ≤ 0 then (vb && va) else if f ≤ d ∧ d ≤ t then va else (va == vb)) = true) ∧ Lies w a n F T) := ⟨h1, h2, hres, hc⟩
  clear h1 h2 hres hc
  obtain ⟨i0, hi, hz0, hz1, hz2⟩ := info_parts Try.info32
  have HI : Hid (Try.prog.info? 32 = some i0 ∧ i0.zero = some (.agg #[.int .i64 0, .int .i64 0]) ∧ i0.size = 2 ∧ i0.bytes = 16) := ⟨hi, hz0, hz1, hz2⟩
  clear hi hz0 hz1 hz2
  go_enter Try.func4, Try.ntmps4
  go_wp2_with fail
  refine (bytes8 _ _ _ _ _ _ _ _ _ _ _ _ hn).mono ?_
  rintro _ _ ⟨rfl, rfl⟩
  go_wp2_with fail
  refine (toOpen_row a n cap F T _ hn (HH.out.2.2.2.alloc _)).mono ?_
  rintro _ w1 ⟨rfl, hb1, hr1⟩
  simp only [World.size_alloc] at hb1 hr1
  have bx1 := (Box.new w (.int .i64 e) (.int .i64 y) (.int .i64 mn) (.int .i64 mx) 26).below hb1 (by omega)
  have hs1 : w.heap.size + 1 < w1.heap.size := hr1.lt
  have hB1 : Below w.heap.size w w1 := (((Below.refl _ _).alloc (Nat.le_refl _) _).trans (hb1.mono (by omega)))
  clear hb1
  obtain ⟨q0, q1, q2, q3⟩ := id bx1
  go_wp2_with fail
  refine (openOn_all e y mn mx d _ n n F T vb _ (by omega) HH.out.1 (.inr ⟨_, _, rfl, hr1.lt, by simpa using row_pairs hr1 0 n (by omega)⟩)).mono ?_
  rintro _ w2 ⟨rfl, hb2⟩
  have bx2 := bx1.below hb2 (by omega)
  have hr2 := row_below hr1 hb2 hs1
  have hs2 : w.heap.size + 1 < w2.heap.size := hr2.lt
  have hB2 : Below w.heap.size w w2 := hB1.trans (hb2.mono (by omega))
  clear hb2 hB1 bx1 hr1 hs1 q0 q1 q2 q3
  clear w1
  go_wp2_with (at_make; refine wpList_make_own _ rfl _ _ 27 rfl w2.heap.size 32 i0 (.agg #[.int .i64 0, .int .i64 0]) 2 Try.underlying27 HI.out.1 HI.out.2.1 HI.out.2.2.1 .i64 .i64 _ (n + 1) rfl rfl (by omega) (by rw [HI.out.2.2.2]; omega) (by unfold maxLen; omega) (Nat.le_refl _) ?_; intro w3 hown3 hgr3)
  have hb3 : Below w2.heap.size w2 w3 := (Below.refl _ _).grown hgr3 (Nat.le_refl _) (by intro _ h; cases h)
  clear hgr3
  go_loopg [23, 24] k (fun g v i wr => ∃ m : Nat, m + g = k ∧ v = .slice (some ⟨w2.heap.size, 0, none⟩) m (n + 1) ∧ i = .int .i64 m ∧ Below w2.heap.size w2 wr ∧
    wr.ownsRow w2.heap.size 32 2 (.slice (some ⟨w2.heap.size, 0, none⟩) m (n + 1)) m (flat (put F k f) (put T k t) m))
  case atStart => exact ⟨0, Nat.zero_add _, rfl, rfl, hb3, hown3⟩
  case round =>
    clear hb3 hown3
    obtain ⟨m, hm0, rfl, rfl, hbel, hown⟩ := hrel
    have hm : m ≤ k := by omega
    have HM : Hid (m + gk = k) := hm0
    clear hm0
    have hsz := hbel.size
    by_cases hlt : m < k
    · have hp := row_pairs (row_below hr2 hbel hs2) 0 n (by omega) m (by omega)
      simp only [Nat.zero_mul, Nat.zero_add] at hp
      obtain ⟨c0, c1⟩ := hp
      have HO := hid hown
      clear hown
      go_wp2_with (at_builtin; refine wpList_append_fits _ rfl (.tmp 70) (.tmp 75) 27 rfl w2.heap.size 32 i0 2 Try.underlying27 HI.out.1 HI.out.2.2.1 w2.heap.size m (n + 1) _ rfl (HO.out.alloc _) ⟨wr.heap.size, 0, none⟩ 1 1 [.int .i64 (F m), .int .i64 (T m)] rfl rfl (cell_two_new _ _ _ _) (oneCell2 _ _) (by omega) ?_; intro w4 hown4 hgr4)
      rw [← put_lt (F := F) (i := k) (x := f) hlt, ← put_lt (F := T) (i := k) (x := t) hlt] at hown4
      have R := laid_more hbel hown4 hgr4
      have hm1 := HM.out
      go_roundg (gk - 1)
      case measure => omega
      case rel => exact ⟨m + 1, by omega, rfl, by go_num, R.1, R.2⟩
    · obtain rfl : m = k := by omega
      have HO := hid hown
      clear hown HM
      go_wp2_with (at_builtin; refine wpList_append_fits _ rfl (.tmp 77) (.tmp 81) 27 rfl w2.heap.size 32 i0 2 Try.underlying27 HI.out.1 HI.out.2.2.1 w2.heap.size m (n + 1) _ rfl (HO.out.alloc _) ⟨wr.heap.size, 0, none⟩ 1 1 [.int .i64 f, .int .i64 t] rfl rfl (cell_two_new _ _ _ _) (oneCell2 _ _) (by omega) ?_; intro w4 hown4 hgr4)
      have R : Below w2.heap.size w2 w4 ∧ w4.ownsRow w2.heap.size 32 2 (.slice (some ⟨w2.heap.size, 0, none⟩) (m + 1) (n + 1)) (m + 1) (flat (put F m f) (put T m t) (m + 1)) :=
        laid_more hbel (by rw [put_eq, put_eq]; exact hown4) hgr4
      clear hown4 hgr4 HO hbel hsz
      go_loopg [23, 25] (n - m) (fun g v i wr => ∃ j : Nat, j + g = n ∧ m ≤ j ∧ v = .slice (some ⟨w2.heap.size, 0, none⟩) (j + 1) (n + 1) ∧ i = .int .i64 j ∧ Below w2.heap.size w2 wr ∧
        wr.ownsRow w2.heap.size 32 2 (.slice (some ⟨w2.heap.size, 0, none⟩) (j + 1) (n + 1)) (j + 1) (flat (put F m f) (put T m t) (j + 1)))
      case atStart => exact ⟨m, by omega, Nat.le_refl _, rfl, rfl, R.1, R.2⟩
      case round =>
        clear R
        obtain ⟨j, hj0, hmj, rfl, rfl, hbel, hown⟩ := hrel
        have hj : j ≤ n := by omega
        have HJ : Hid (j + gk = n) := hj0
        clear hj0
        have hsz := hbel.size
        by_cases hlt : j < n
        · have hp := row_pairs (row_below hr2 hbel hs2) 0 n (by omega) j (by omega)
          simp only [Nat.zero_mul, Nat.zero_add] at hp
          obtain ⟨c0, c1⟩ := hp
          have HO := hid hown
          clear hown
          go_wp2_with (at_builtin; refine wpList_append_fits _ rfl (.tmp 90) (.tmp 95) 27 rfl w2.heap.size 32 i0 2 Try.underlying27 HI.out.1 HI.out.2.2.1 w2.heap.size (j + 1) (n + 1) _ rfl (HO.out.alloc _) ⟨wr.heap.size, 0, none⟩ 1 1 [.int .i64 (F j), .int .i64 (T j)] rfl rfl (cell_two_new _ _ _ _) (oneCell2 _ _) (by omega) ?_; intro w5 hown5 hgr5)
          rw [← put_succ (F := F) (x := f) hmj, ← put_succ (F := T) (x := t) hmj] at hown5
          have R := laid_more hbel hown5 hgr5
          have hj1 := HJ.out
          go_roundg (gk - 1)
          case measure => omega
          case rel => exact ⟨j + 1, by omega, by omega, rfl, by go_num, R.1, R.2⟩
        · obtain rfl : j = n := by omega
          clear HJ
          obtain ⟨q0, q1, q2, q3⟩ := bx2.below hbel (by omega)
          have hBr : Below w.heap.size w wr := hB2.trans (hbel.mono (by omega))
          have A := hid (openOn_all e y mn mx d (some ⟨w2.heap.size, 0, none⟩) (j + 1) (j + 1) (put F m f) (put T m t) va wr (by omega) HH.out.2.1 (.inr ⟨_, _, rfl, by have := World.block_lt_of_cell? _ _ (owned_pairs hown 0 (by omega)).1; exact this, owned_pairs hown⟩))
          clear hown
          go_wp2_with fail
          refine A.out.mono ?_
          rintro _ w6 ⟨rfl, hb6⟩
          have hB6 : Below w.heap.size w w6 := hBr.trans (hb6.mono hBr.size)
          have hres := HH.out.2.2.1
          clear hb6 hBr A HH q0 q1 q2 q3
          by_cases hy : y ≤ 0
          · rw [if_pos hy] at hres
            simp only [Bool.and_eq_true] at hres
            obtain ⟨rfl, rfl⟩ := hres
            go_wp2
            go_ret
            exact ⟨rfl, hB6⟩
          · rw [if_neg hy] at hres
            by_cases hin : f ≤ d ∧ d ≤ t
            · rw [if_pos hin] at hres
              subst hres
              obtain ⟨hf, ht⟩ := hin
              go_wp2
              go_ret
              exact ⟨rfl, hB6⟩
            · rw [if_neg hin] at hres
              have hva : va = vb := by simpa using hres
              subst hva
              clear hres
              by_cases hf : f ≤ d
              · have ht : ¬ d ≤ t := by omega
                clear hin
                cases va <;> (go_wp2; go_ret; exact ⟨rfl, hB6⟩)
              · clear hin
                cases va <;> (go_wp2; go_ret; exact ⟨rfl, hB6⟩)
end Go.Proofs.Qxb6630072a
