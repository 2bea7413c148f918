import Derived.Test.Qxb6630111aMoreApp
import Derived.Test.Qxb6630111aMoreIns
namespace Go.Proofs.Qxb6630111a
open Go.RowKit

set_option maxRecDepth 1000000 in
set_option maxHeartbeats 1000000 in
theorem more_big (ao go : Option Addr) (n cap m gcap : Nat) (EA : Nat → Option Addr) (EN EC : Nat → Nat) (MA : Nat → Option Addr) (MN MC : Nat → Nat) (gi p : Int) (id role : ByteArray) (w : World)
    (hI : In w ao go n m EA EN EC MA MN MC) (hbig : ¬ (n + sum EN n ≤ 1048576 ∧ m + sum MN m ≤ 1048576)) :
    Calls Try.prog 4 #[.slice ao n cap, .slice go m gcap, .int .i64 gi, .int .i64 p, .string id, .string role] w fun r w' => r = .returned (.bool true) ∧ Below w.heap.size w w' := by
  have HI := hid hI
  have HB := hid hbig
  clear hI hbig
  go_enter Try.func4, Try.ntmps4
  go_wp2_with fail
  refine (bytes10 ao go n cap m gcap EA EN EC MA MN MC _ _ id role w HI.out.p HI.out.g).mono ?_
  rintro _ _ ⟨b, rfl, rfl, h⟩
  cases b
  · go_wp2
    go_ret
    exact ⟨rfl, Below.refl _ _⟩
  · exact absurd (h rfl) HB.out

set_option maxRecDepth 1000000 in
set_option maxHeartbeats 1000000 in
theorem more_out (ao go : Option Addr) (n cap m gcap : Nat) (EA : Nat → Option Addr) (EN EC : Nat → Nat) (MA : Nat → Option Addr) (MN MC : Nat → Nat) (gi p : Int) (id role : ByteArray) (w : World)
    (hI : In w ao go n m EA EN EC MA MN MC) (hb1 : n + sum EN n ≤ 1048576) (hb2 : m + sum MN m ≤ 1048576) (hk : gi < 0 ∨ (m : Int) < gi) :
    Calls Try.prog 4 #[.slice ao n cap, .slice go m gcap, .int .i64 gi, .int .i64 p, .string id, .string role] w fun r w' => r = .returned (.bool true) ∧ Below w.heap.size w w' := by
  obtain ⟨hn, hEN⟩ := small hb1
  obtain ⟨hm, hMN⟩ := small hb2
  have HI := hid hI
  have HE := hid hEN
  have HM := hid hMN
  clear hI hEN hMN hb1 hb2
  go_enter Try.func4, Try.ntmps4
  go_wp2_with fail
  refine (bytes10 ao go n cap m gcap EA EN EC MA MN MC _ _ id role w HI.out.p HI.out.g).mono ?_
  rintro _ _ ⟨b, rfl, rfl, _⟩
  cases b
  · go_wp2
    go_ret
    exact ⟨rfl, Below.refl _ _⟩
  go_wp2_with fail
  refine (within ao go n cap m gcap EA EN EC MA MN MC _ w hn hm HE.out HM.out HI.out.p HI.out.g).mono ?_
  rintro _ w1 ⟨b, rfl, hB1⟩
  cases b
  · go_wp2
    go_ret
    exact ⟨rfl, hB1⟩
  rcases hk with hk | hk
  · go_wp2
    go_ret
    exact ⟨rfl, hB1⟩
  · have hk0 : ¬ gi < 0 := by omega
    go_wp2
    go_ret
    exact ⟨rfl, hB1⟩

set_option maxRecDepth 1000000 in
set_option maxHeartbeats 1000000 in
theorem more_pos (ao go : Option Addr) (n cap m gcap : Nat) (EA : Nat → Option Addr) (EN EC : Nat → Nat) (MA : Nat → Option Addr) (MN MC : Nat → Nat) (gi : Nat) (p : Int) (id role : ByteArray) (w : World)
    (hI : In w ao go n m EA EN EC MA MN MC) (hb1 : n + sum EN n ≤ 1048576) (hb2 : m + sum MN m ≤ 1048576) (hgi : gi < m) (hp : p < 0 ∨ (MN gi : Int) < p) :
    Calls Try.prog 4 #[.slice ao n cap, .slice go m gcap, .int .i64 gi, .int .i64 p, .string id, .string role] w fun r w' => r = .returned (.bool true) ∧ Below w.heap.size w w' := by
  obtain ⟨hn, hEN⟩ := small hb1
  obtain ⟨hm, hMN⟩ := small hb2
  have HI := hid hI
  have HE := hid hEN
  have HM := hid hMN
  clear hI hEN hMN hb1 hb2
  go_enter Try.func4, Try.ntmps4
  go_wp2_with fail
  refine (bytes10 ao go n cap m gcap EA EN EC MA MN MC _ _ id role w HI.out.p HI.out.g).mono ?_
  rintro _ _ ⟨b, rfl, rfl, _⟩
  cases b
  · go_wp2
    go_ret
    exact ⟨rfl, Below.refl _ _⟩
  go_wp2_with fail
  refine (within ao go n cap m gcap EA EN EC MA MN MC _ w hn hm HE.out HM.out HI.out.p HI.out.g).mono ?_
  rintro _ w1 ⟨b, rfl, hB1⟩
  cases b
  · go_wp2
    go_ret
    exact ⟨rfl, hB1⟩
  rcases (HI.out.g.below hB1) with h | ⟨b, off, rfl, hb, hc⟩
  · omega
  obtain ⟨_, c3, _⟩ := hc gi hgi
  clear hc HI
  obtain ⟨on, hon⟩ : ∃ x, MN gi = x := ⟨_, rfl⟩
  obtain ⟨ma, hma⟩ : ∃ x, MA gi = x := ⟨_, rfl⟩
  obtain ⟨mc, hmc⟩ : ∃ x, MC gi = x := ⟨_, rfl⟩
  rw [hma, hmc, hon] at c3
  rw [hon] at hp
  clear hma hmc hon
  rcases hp with hp | hp
  · go_wp2
    go_ret
    exact ⟨rfl, hB1⟩
  · have hp0 : ¬ p < 0 := by omega
    go_wp2
    go_ret
    exact ⟨rfl, hB1⟩

theorem more_any (ao go : Option Addr) (n cap m gcap : Nat) (EA : Nat → Option Addr) (EN EC : Nat → Nat) (MA : Nat → Option Addr) (MN MC : Nat → Nat) (gi p : Int) (id role : ByteArray) (w : World)
    (hI : In w ao go n m EA EN EC MA MN MC) :
    Calls Try.prog 4 #[.slice ao n cap, .slice go m gcap, .int .i64 gi, .int .i64 p, .string id, .string role] w fun r w' => r = .returned (.bool true) ∧ Below w.heap.size w w' := by
  by_cases hb : n + sum EN n ≤ 1048576 ∧ m + sum MN m ≤ 1048576
  · by_cases hk : gi < 0 ∨ (m : Int) < gi
    · exact more_out ao go n cap m gcap EA EN EC MA MN MC gi p id role w hI hb.1 hb.2 hk
    · obtain ⟨g, rfl⟩ : ∃ g : Nat, gi = (g : Int) := ⟨gi.toNat, by omega⟩
      by_cases hgm : g = m
      · subst hgm
        rcases go with _ | a
        · obtain rfl := hI.g0 rfl
          exact more_app_nil ao n cap gcap EA EN EC MA MN MC id role w hI hb.1 hb.2 _ rfl p
        · exact more_app ao a n cap g gcap EA EN EC MA MN MC id role w hI hb.1 hb.2 _ rfl p
      · have hlt : g < m := by omega
        by_cases hp : p < 0 ∨ (MN g : Int) < p
        · exact more_pos ao go n cap m gcap EA EN EC MA MN MC g p id role w hI hb.1 hb.2 hlt hp
        · obtain ⟨ps, rfl⟩ : ∃ ps : Nat, p = (ps : Int) := ⟨p.toNat, by omega⟩
          rcases go with _ | a
          · have := hI.g0 rfl
            omega
          · exact more_ins ao a n cap m gcap EA EN EC MA MN MC id role w hI hb.1 hb.2 _ rfl g ps hlt (by omega)
  · exact more_big ao go n cap m gcap EA EN EC MA MN MC gi p id role w hI hb
end Go.Proofs.Qxb6630111a
