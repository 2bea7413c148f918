import Derived.Test.Qxb6630111aSplit
namespace Go.Proofs.Qxb6630111a
open Go.RowKit

set_option maxRecDepth 1000000 in
set_option maxHeartbeats 1000000 in
theorem split_big (ao go : Option Addr) (n cap m gcap : Nat) (EA : Nat → Option Addr) (EN EC : Nat → Nat) (MA : Nat → Option Addr) (MN MC : Nat → Nat) (k : Int) (w : World)
    (hI : In w ao go n m EA EN EC MA MN MC) (hbig : ¬ (n + sum EN n ≤ 1048576 ∧ m + sum MN m ≤ 1048576)) :
    Calls Try.prog 3 #[.slice ao n cap, .slice go m gcap, .int .i64 k] w fun r w' => r = .returned (.bool true) ∧ Below w.heap.size w w' := by
  have HI := hid hI
  have HB := hid hbig
  clear hI hbig
  go_enter Try.func3, Try.ntmps3
  go_wp2_with fail
  refine (bytes5 ao go n cap m gcap EA EN EC MA MN MC k w HI.out.p HI.out.g).mono ?_
  rintro _ _ ⟨b, rfl, rfl, h⟩
  cases b
  · go_wp2
    go_ret
    exact ⟨rfl, Below.refl _ _⟩
  · exact absurd (h rfl) HB.out

set_option maxRecDepth 1000000 in
set_option maxHeartbeats 1000000 in
theorem split_out (ao go : Option Addr) (n cap m gcap : Nat) (EA : Nat → Option Addr) (EN EC : Nat → Nat) (MA : Nat → Option Addr) (MN MC : Nat → Nat) (k : Int) (w : World)
    (hI : In w ao go n m EA EN EC MA MN MC) (hb1 : n + sum EN n ≤ 1048576) (hb2 : m + sum MN m ≤ 1048576) (hk : k < 0 ∨ (m : Int) < k) :
    Calls Try.prog 3 #[.slice ao n cap, .slice go m gcap, .int .i64 k] w fun r w' => r = .returned (.bool true) ∧ Below w.heap.size w w' := by
  obtain ⟨hn, hEN⟩ := small hb1
  obtain ⟨hm, hMN⟩ := small hb2
  have HI := hid hI
  have HE := hid hEN
  have HM := hid hMN
  clear hI hEN hMN hb1 hb2
  go_enter Try.func3, Try.ntmps3
  go_wp2_with fail
  refine (bytes5 ao go n cap m gcap EA EN EC MA MN MC k w HI.out.p HI.out.g).mono ?_
  rintro _ _ ⟨b, rfl, rfl, _⟩
  cases b
  · go_wp2
    go_ret
    exact ⟨rfl, Below.refl _ _⟩
  go_wp2_with fail
  refine (within ao go n cap m gcap EA EN EC MA MN MC 0 w hn hm HE.out HM.out HI.out.p HI.out.g).mono ?_
  rintro _ w1 ⟨b, rfl, hB1⟩
  cases b
  · go_wp2
    go_ret
    exact ⟨rfl, hB1⟩
  rcases hk with hk | hk
  · go_wp2
    go_ret
    exact ⟨rfl, hB1⟩
  · have hk0 : ¬ k < 0 := by omega
    go_wp2
    go_ret
    exact ⟨rfl, hB1⟩

set_option maxRecDepth 1000000 in
set_option maxHeartbeats 2000000 in
theorem split_nil (ao : Option Addr) (n cap gcap : Nat) (EA : Nat → Option Addr) (EN EC : Nat → Nat) (MA : Nat → Option Addr) (MN MC : Nat → Nat) (w : World)
    (hI : In w ao none n 0 EA EN EC MA MN MC) (hb1 : n + sum EN n ≤ 1048576) :
    Calls Try.prog 3 #[.slice ao n cap, .slice none 0 gcap, .int .i64 0] w fun r w' => r = .returned (.bool true) ∧ Below w.heap.size w w' := by
  obtain ⟨hn, hEN⟩ := small hb1
  have HI := hid hI
  have HE := hid hEN
  clear hI hEN hb1
  go_enter Try.func3, Try.ntmps3
  go_wp2_with fail
  refine (bytes5 ao none n cap 0 gcap EA EN EC MA MN MC 0 w HI.out.p HI.out.g).mono ?_
  rintro _ _ ⟨b, rfl, rfl, _⟩
  cases b
  · go_wp2
    go_ret
    exact ⟨rfl, Below.refl _ _⟩
  go_wp2_with fail
  refine (within ao none n cap 0 gcap EA EN EC MA MN MC 0 w hn (by omega) HE.out (fun i hi => absurd hi (Nat.not_lt_zero _)) HI.out.p HI.out.g).mono ?_
  rintro _ w1 ⟨b, rfl, hB1⟩
  cases b
  · go_wp2
    go_ret
    exact ⟨rfl, hB1⟩
  have HI1 := hid (HI.out.below hB1)
  clear HI
  go_wp2_with fail
  refine (people_any ao n cap EA EN EC w1 hn HE.out HI1.out.e0 HI1.out.p0 HI1.out.p).mono ?_
  rintro _ w2 ⟨pa, pn, pc, rfl, hB2⟩
  have hB2' : Below w.heap.size w w2 := hB1.trans (hB2.mono hB1.size)
  clear HI1 hB1 hB2
  clear w1
  go_wp2_with fail
  refine (groups_nil w2 gcap).mono ?_
  rintro _ _ ⟨rfl, rfl⟩
  have hsz := hB2'.size
  go_wp2
  obtain ⟨x1, x2, x3, hbel, x4⟩ := boxes w2 (.slice pa pn pc) (.slice pa pn pc) (.slice none 0 0) (.slice none 0 0) (.slice none 0 0) (.slice none 0 0) 31
  have hB4 := hB2'.trans (hbel.mono hsz)
  have A1 := hid (memb_of w2.heap.size _ 0 0 0 0 MA MN MC _ x1 (by omega) rfl (by omega) (.inl rfl))
  have HX := hid (And.intro x2 x3)
  clear x1 x2 x3
  refine wp_loop_rounds 1 ?_
  rw [rounds_succ]
  go_wp2_with fail
  refine A1.out.mono ?_
  rintro _ w5 ⟨rfl, hB5⟩
  have hB5' : Below w.heap.size w w5 := hB4.trans (hB5.mono hB4.size)
  have y2 := (hB5.cell (p := ⟨w2.heap.size + 1, 1, none⟩) (by show w2.heap.size + 1 < _; omega)).trans HX.out.1
  have y3 := (hB5.cell (p := ⟨w2.heap.size + 1 + 1, 1, none⟩) (by show w2.heap.size + 1 + 1 < _; omega)).trans HX.out.2
  have hs5 : w2.heap.size + 2 < w5.heap.size := Nat.lt_of_lt_of_le x4 hB5.size
  have A2 := hid (memb_of (w2.heap.size + 1) _ 0 0 0 0 MA MN MC w5 y2 (by omega) rfl (by omega) (.inl rfl))
  clear A1 HX hB5
  go_wp2_with fail
  refine A2.out.mono ?_
  rintro _ w6 ⟨rfl, hB6⟩
  have hB6' : Below w.heap.size w w6 := hB5'.trans (hB6.mono hB5'.size)
  have z3 := (hB6.cell (p := ⟨w2.heap.size + 1 + 1, 1, none⟩) (by show w2.heap.size + 1 + 1 < w5.heap.size; omega)).trans y3
  have A3 := hid (memb_of (w2.heap.size + 1 + 1) _ 0 0 0 0 MA MN MC w6 z3 (by omega) rfl (by omega) (.inl rfl))
  clear A2 hB6 y2 y3
  go_wp2_with fail
  refine A3.out.mono ?_
  rintro _ w7 ⟨rfl, hB7⟩
  have hB7' : Below w.heap.size w w7 := hB6'.trans (hB7.mono hB6'.size)
  go_wp2
  go_ret
  exact ⟨rfl, hB7'⟩

theorem split_any (ao go : Option Addr) (n cap m gcap : Nat) (EA : Nat → Option Addr) (EN EC : Nat → Nat) (MA : Nat → Option Addr) (MN MC : Nat → Nat) (k : Int) (w : World)
    (hI : In w ao go n m EA EN EC MA MN MC) :
    Calls Try.prog 3 #[.slice ao n cap, .slice go m gcap, .int .i64 k] w fun r w' => r = .returned (.bool true) ∧ Below w.heap.size w w' := by
  by_cases hb : n + sum EN n ≤ 1048576 ∧ m + sum MN m ≤ 1048576
  · by_cases hk : k < 0 ∨ (m : Int) < k
    · exact split_out ao go n cap m gcap EA EN EC MA MN MC k w hI hb.1 hb.2 hk
    · obtain ⟨kn, rfl⟩ : ∃ kn : Nat, k = (kn : Int) := ⟨k.toNat, by omega⟩
      rcases go with _ | a
      · obtain rfl := hI.g0 rfl
        obtain rfl : kn = 0 := by omega
        exact split_nil ao n cap gcap EA EN EC MA MN MC w hI hb.1
      · exact split_some ao a n cap m gcap EA EN EC MA MN MC kn w (by omega) hI hb.1 hb.2 _ _ _ rfl rfl rfl
  · exact split_big ao go n cap m gcap EA EN EC MA MN MC k w hI hb
end Go.Proofs.Qxb6630111a
