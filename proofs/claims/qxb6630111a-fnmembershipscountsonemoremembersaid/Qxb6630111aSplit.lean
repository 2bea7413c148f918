import Derived.Test.Qxb6630111aMemb
import Derived.Test.Qxb6630111aGroups
import Derived.Test.Qxb6630111aPeople
import Derived.Test.Qxb6630111aBytes
import Derived.Test.Qxb6630111aWithin
namespace Go.Proofs.Qxb6630111a
open Go.RowKit

theorem memb_of (db : Nat) (ao : Option Addr) (n cap lo S : Nat) (MA : Nat → Option Addr) (MN MC : Nat → Nat) (w : World) (hd : w.cell? ⟨db, 1, none⟩ = some (.slice ao n cap)) (hn : (n : Int) ≤ 2000000)
    (hS : sum MN n = S) (hs : (S : Int) ≤ 2000000) (hG : Groups w lo ao n MA MN MC) :
    Calls Try.prog 9 #[.pointer (some ⟨db, 0, none⟩)] w fun r w' => r = .returned (.int .i64 (S : Nat)) ∧ Below w.heap.size w w' := by
  subst hS
  exact memb_any db ao n cap lo MA MN MC w hd hn hs hG

/-- what came in, told once -/
structure In (w : World) (ao go : Option Addr) (n m : Nat) (EA : Nat → Option Addr) (EN EC : Nat → Nat) (MA : Nat → Option Addr) (MN MC : Nat → Nat) : Prop where
  p : People w ao n EA EN EC
  g : Groups w 0 go m MA MN MC
  p0 : ao = none → n = 0
  g0 : go = none → m = 0
  e0 : ∀ i, i < n → EA i = none → EN i = 0
  m0 : ∀ i, i < m → MA i = none → MN i = 0

theorem In.below {w w' : World} {ao go : Option Addr} {n m : Nat} {EA : Nat → Option Addr} {EN EC : Nat → Nat} {MA : Nat → Option Addr} {MN MC : Nat → Nat} (h : In w ao go n m EA EN EC MA MN MC) (hb : Below w.heap.size w w') :
    In w' ao go n m EA EN EC MA MN MC := ⟨h.p.below hb, h.g.below hb, h.p0, h.g0, h.e0, h.m0⟩

/-- the sums are small: so is each part -/
theorem small {n : Nat} {N : Nat → Nat} (h : n + sum N n ≤ 1048576) : (n : Int) ≤ 2000000 ∧ ∀ i, i < n → ((N i : Nat) : Int) ≤ 2000000 :=
  ⟨by omega, fun i hi => by have := sum_at N hi; omega⟩

theorem Laid.first {w : World} {g n : Nat} {f : Nat → Value} {MA : Nat → Option Addr} {MN MC : Nat → Nat} (h : Laid w g n n f MA MN MC) (m : Nat) (hm : m ≤ n) :
    Groups w (g + 1) (some ⟨g, 0, none⟩) m MA MN MC := by
  have := h.groups 0 m (by omega)
  simpa using this

/-- three boxes laid behind one another -/
theorem boxes (w : World) (x y z A B C : Value) (t : TypeId) :
    (((w.alloc (.cells #[x, A] t)).alloc (.cells #[y, B] t)).alloc (.cells #[z, C] t)).cell? ⟨w.heap.size, 1, none⟩ = some A ∧
    (((w.alloc (.cells #[x, A] t)).alloc (.cells #[y, B] t)).alloc (.cells #[z, C] t)).cell? ⟨w.heap.size + 1, 1, none⟩ = some B ∧
    (((w.alloc (.cells #[x, A] t)).alloc (.cells #[y, B] t)).alloc (.cells #[z, C] t)).cell? ⟨w.heap.size + 1 + 1, 1, none⟩ = some C ∧
    Below w.heap.size w (((w.alloc (.cells #[x, A] t)).alloc (.cells #[y, B] t)).alloc (.cells #[z, C] t)) ∧
    w.heap.size + 2 < (((w.alloc (.cells #[x, A] t)).alloc (.cells #[y, B] t)).alloc (.cells #[z, C] t)).heap.size := by
  refine ⟨?_, ?_, ?_, (((Below.refl _ _).alloc (Nat.le_refl _) _).alloc (by simp) _).alloc (by simp; omega) _, by simp⟩
  · rw [World.cell?_alloc_past _ _ _ (by simp; omega), World.cell?_alloc_past _ _ _ (by simp)]; simp
  · rw [World.cell?_alloc_past _ _ _ (by simp)]
    have e := World.size_alloc w (.cells #[x, A] t)
    rw [← e]; simp
  · have e : ((w.alloc (.cells #[x, A] t)).alloc (.cells #[y, B] t)).heap.size = w.heap.size + 1 + 1 := by simp
    rw [← e]
    generalize (w.alloc (.cells #[x, A] t)).alloc (.cells #[y, B] t) = W
    simp

theorem cell_box (w : World) (x y : Value) (t : TypeId) : (w.alloc (.cells #[x, y] t)).cell? ⟨w.heap.size, 1, none⟩ = some y := by simp

set_option maxRecDepth 1000000 in
set_option maxHeartbeats 4000000 in
theorem split_some (ao : Option Addr) (a : Addr) (n cap m gcap : Nat) (EA : Nat → Option Addr) (EN EC : Nat → Nat) (MA : Nat → Option Addr) (MN MC : Nat → Nat) (k : Nat) (w : World) (hk : k ≤ m)
    (hI : In w ao (some a) n m EA EN EC MA MN MC) (hb1 : n + sum EN n ≤ 1048576) (hb2 : m + sum MN m ≤ 1048576) (S L R : Nat) (hS : sum MN m = S) (hL : sum MN k = L) (hR : sum (fun i => MN (k + i)) (m - k) = R) :
    Calls Try.prog 3 #[.slice ao n cap, .slice (some a) m gcap, .int .i64 k] w fun r w' => r = .returned (.bool true) ∧ Below w.heap.size w w' := by
  have hLR : L + R = S := by
    have := sum_split MN k (m - k)
    rw [show k + (m - k) = m by omega] at this
    omega
  have q1 : (L : Int) + (R : Int) ≤ S := by omega
  have q2 : (S : Int) ≤ (L : Int) + (R : Int) := by omega
  have q3 : (S : Int) ≤ 1048576 := by omega
  obtain ⟨hn, hEN⟩ := small hb1
  obtain ⟨hm, hMN⟩ := small hb2
  have HI := hid hI
  have HE := hid hEN
  have HM := hid hMN
  have HS := hid (And.intro hS (And.intro hL hR))
  have HB := hid (And.intro hb1 hb2)
  clear hI hEN hMN hS hL hR hLR hb1 hb2
  go_enter Try.func3, Try.ntmps3
  go_wp2_with fail
  refine (bytes5 ao (some a) n cap m gcap EA EN EC MA MN MC k w HI.out.p HI.out.g).mono ?_
  rintro _ _ ⟨b, rfl, rfl, _⟩
  cases b
  · go_wp2
    go_ret
    exact ⟨rfl, Below.refl _ _⟩
  go_wp2_with fail
  refine (within ao (some a) n cap m gcap EA EN EC MA MN MC 0 w hn hm HE.out HM.out HI.out.p HI.out.g).mono ?_
  rintro _ w1 ⟨b, rfl, hB1⟩
  cases b
  · go_wp2
    go_ret
    exact ⟨rfl, hB1⟩
  have HI1 := hid (HI.out.below hB1)
  clear HI
  go_wp2_with fail
  refine (people_any ao n cap EA EN EC w1 hn HE.out HI1.out.e0 HI1.out.p0 HI1.out.p).mono ?_
  rintro _ w2 ⟨pa, pn, pc, rfl, hB2⟩
  have HI2 := hid (HI1.out.below hB2)
  have hB2' : Below w.heap.size w w2 := hB1.trans (hB2.mono hB1.size)
  clear HI1 hB1 hB2
  clear w1
  go_wp2_with fail
  refine (groups_row a m gcap MA MN MC w2 hm HM.out HI2.out.m0 HI2.out.g).mono ?_
  rintro _ w3 ⟨rfl, hB3, f, MA', MC', hlaid⟩
  have HI3 := hid (HI2.out.below hB3)
  have hB3' : Below w.heap.size w w3 := hB2'.trans (hB3.mono hB2'.size)
  have hg : w2.heap.size < w3.heap.size := hlaid.1.lt
  have hsz := hB3'.size
  have HL := hid hlaid
  clear HI2 hB2' hB3 hlaid
  rcases Nat.eq_or_lt_of_le hk with hkm | hkm
  · subst hkm
    go_wp2
    go_loopg [12, 13] k (fun g v i wr => ∃ q : Nat, q + g = k ∧ v = .int .i64 (sum MN q : Nat) ∧ i = .int .i64 q ∧ Below w3.heap.size w3 wr ∧ wr.cell? ⟨w3.heap.size, 1, none⟩ = some (.slice (some ⟨w2.heap.size, 0, none⟩) k k) ∧
      wr.cell? ⟨w3.heap.size + 1, 1, none⟩ = some (.slice (some ⟨w2.heap.size, 0, none⟩) k k) ∧ wr.cell? ⟨w3.heap.size + 1 + 1, 1, none⟩ = some (.slice (some ⟨w2.heap.size, 0, none⟩) 0 0) ∧ w3.heap.size + 2 < wr.heap.size)
    case atStart =>
      obtain ⟨b1, b2, b3, b4, b5⟩ := boxes w3 (.slice pa pn pc) (.slice pa pn pc) (.slice none 0 0) (.slice (some ⟨w2.heap.size, 0, none⟩) k k) (.slice (some ⟨w2.heap.size, 0, none⟩) k k) (.slice (some ⟨w2.heap.size, 0, none⟩) 0 0) 31
      exact ⟨0, Nat.zero_add _, rfl, rfl, b4, b1, b2, b3, b5⟩
    case round =>
      obtain ⟨q, hq0, rfl, rfl, hbel, x1, x2, x3, x4⟩ := hrel
      have hq : q ≤ k := by omega
      have HQ := hid hq0
      have HX := hid (And.intro x1 (And.intro x2 x3))
      clear hq0 x1 x2 x3
      have hsq : ((sum MN q : Nat) : Int) ≤ 1048576 := by have := sum_mono MN hq; have := HB.out.2; omega
      by_cases hlt : q < k
      · rcases (HI3.out.g.below hbel) with h | ⟨b, off, hab, hb, hc⟩
        · omega
        cases hab
        obtain ⟨_, c3, _⟩ := hc q hlt
        obtain ⟨e, he⟩ : ∃ m, MN q = m := ⟨_, rfl⟩
        have HSq := hid (show sum MN (q + 1) = sum MN q + e by rw [sum_succ, he])
        have hse : ((sum MN q : Nat) : Int) + (e : Int) ≤ 1048576 := by have := sum_mono MN (show q + 1 ≤ k from hlt); have := HB.out.2; have := HSq.out; omega
        rw [he] at c3
        clear he hc
        go_wp2
        rename World => w4
        go_loopg [12, 14] e (fun g v i wr => ∃ j : Nat, j + g = e ∧ v = .int .i64 ((sum MN q + j : Nat) : Int) ∧ i = .int .i64 j ∧ wr = w4)
        case atStart => exact ⟨0, Nat.zero_add _, rfl, rfl, rfl⟩
        case round =>
          obtain ⟨j, hj0, rfl, rfl, rfl⟩ := hrel
          have hj : j ≤ e := by omega
          have HJ := hid hj0
          clear hj0
          by_cases hje : j < e
          · go_wp2
            have hj1 := HJ.out
            go_roundg (gk - 1)
            case measure => omega
            case rel => exact ⟨j + 1, by omega, by go_num, by go_num, rfl⟩
          · obtain rfl : j = e := by omega
            go_wp2
            have hq1 := HQ.out
            go_roundg (k - q - 1)
            case measure => omega
            case rel => exact ⟨q + 1, by omega, by rw [HSq.out], by go_num, hbel, HX.out.1, HX.out.2.1, HX.out.2.2, x4⟩
      · obtain rfl : q = k := by omega
        rw [HS.out.1]
        rename World => w4
        have hB4 : Below w.heap.size w w4 := hB3'.trans (hbel.mono hsz)
        have A1 := hid (memb_of w3.heap.size _ q q _ S MA' MN MC' w4 HX.out.1 hm HS.out.1 (by omega) ((HL.out.first q (Nat.le_refl _)).below hbel))
        clear hsq
        go_wp2_with fail
        refine A1.out.mono ?_
        rintro _ w5 ⟨rfl, hB5⟩
        have hB5' : Below w.heap.size w w5 := hB4.trans (hB5.mono hB4.size)
        have y2 := (hB5.cell (p := ⟨w3.heap.size + 1, 1, none⟩) (by show w3.heap.size + 1 < w4.heap.size; omega)).trans HX.out.2.1
        have y3 := (hB5.cell (p := ⟨w3.heap.size + 1 + 1, 1, none⟩) (by show w3.heap.size + 1 + 1 < w4.heap.size; omega)).trans HX.out.2.2
        have hb35 : Below w3.heap.size w3 w5 := hbel.trans (hB5.mono (by omega))
        have hs5 : w3.heap.size + 2 < w5.heap.size := Nat.lt_of_lt_of_le x4 hB5.size
        have A2 := hid (memb_of (w3.heap.size + 1) _ q q _ L MA' MN MC' w5 y2 (by omega) HS.out.2.1 (by omega) ((HL.out.first q (by omega)).below hb35))
        clear A1 HX hB5
        go_wp2_with fail
        refine A2.out.mono ?_
        rintro _ w6 ⟨rfl, hB6⟩
        have hB6' : Below w.heap.size w w6 := hB5'.trans (hB6.mono hB5'.size)
        have z3 := (hB6.cell (p := ⟨w3.heap.size + 1 + 1, 1, none⟩) (by show w3.heap.size + 1 + 1 < w5.heap.size; omega)).trans y3
        have hb36 : Below w3.heap.size w3 w6 := hb35.trans (hB6.mono (by omega))
        have A3 := hid (memb_of (w3.heap.size + 1 + 1) _ 0 0 0 R MA' (fun i => MN (q + i)) MC' w6 z3 (by omega) (by have := HS.out.2.2; rwa [Nat.sub_self] at this) (by omega) (.inl rfl))
        clear A2 hB6 y2 y3
        go_wp2_with fail
        refine A3.out.mono ?_
        rintro _ w7 ⟨rfl, hB7⟩
        have hB7' : Below w.heap.size w w7 := hB6'.trans (hB7.mono hB6'.size)
        go_wp2
        go_ret
        exact ⟨ret_bool (by simp; omega), hB7'⟩
  · have hne : ¬ m = k := by omega
    go_wp2
    go_loopg [12, 13] m (fun g v i wr => ∃ q : Nat, q + g = m ∧ v = .int .i64 (sum MN q : Nat) ∧ i = .int .i64 q ∧ Below w3.heap.size w3 wr ∧ wr.cell? ⟨w3.heap.size, 1, none⟩ = some (.slice (some ⟨w2.heap.size, 0, none⟩) m m) ∧
      wr.cell? ⟨w3.heap.size + 1, 1, none⟩ = some (.slice (some ⟨w2.heap.size, 0, none⟩) k m) ∧ wr.cell? ⟨w3.heap.size + 1 + 1, 1, none⟩ = some (.slice (some ⟨w2.heap.size, k * 4, none⟩) (m - k) (m - k)) ∧ w3.heap.size + 2 < wr.heap.size)
    case atStart =>
      obtain ⟨b1, b2, b3, b4, b5⟩ := boxes w3 (.slice pa pn pc) (.slice pa pn pc) (.slice none 0 0) (.slice (some ⟨w2.heap.size, 0, none⟩) m m) (.slice (some ⟨w2.heap.size, 0, none⟩) k m) (.slice (some ⟨w2.heap.size, k * 4, none⟩) (m - k) (m - k)) 31
      exact ⟨0, Nat.zero_add _, rfl, rfl, b4, b1, b2, b3, b5⟩
    case round =>
      obtain ⟨q, hq0, rfl, rfl, hbel, x1, x2, x3, x4⟩ := hrel
      have hq : q ≤ m := by omega
      have HQ := hid hq0
      have HX := hid (And.intro x1 (And.intro x2 x3))
      clear hq0 x1 x2 x3
      have hsq : ((sum MN q : Nat) : Int) ≤ 1048576 := by have := sum_mono MN hq; have := HB.out.2; omega
      by_cases hlt : q < m
      · rcases (HI3.out.g.below hbel) with h | ⟨b, off, hab, hb, hc⟩
        · omega
        cases hab
        obtain ⟨_, c3, _⟩ := hc q hlt
        obtain ⟨e, he⟩ : ∃ m, MN q = m := ⟨_, rfl⟩
        have HSq := hid (show sum MN (q + 1) = sum MN q + e by rw [sum_succ, he])
        have hse : ((sum MN q : Nat) : Int) + (e : Int) ≤ 1048576 := by have := sum_mono MN (show q + 1 ≤ m from hlt); have := HB.out.2; have := HSq.out; omega
        rw [he] at c3
        clear he hc
        go_wp2
        rename World => w4
        go_loopg [12, 14] e (fun g v i wr => ∃ j : Nat, j + g = e ∧ v = .int .i64 ((sum MN q + j : Nat) : Int) ∧ i = .int .i64 j ∧ wr = w4)
        case atStart => exact ⟨0, Nat.zero_add _, rfl, rfl, rfl⟩
        case round =>
          obtain ⟨j, hj0, rfl, rfl, rfl⟩ := hrel
          have hj : j ≤ e := by omega
          have HJ := hid hj0
          clear hj0
          by_cases hje : j < e
          · go_wp2
            have hj1 := HJ.out
            go_roundg (gk - 1)
            case measure => omega
            case rel => exact ⟨j + 1, by omega, by go_num, by go_num, rfl⟩
          · obtain rfl : j = e := by omega
            go_wp2
            have hq1 := HQ.out
            go_roundg (m - q - 1)
            case measure => omega
            case rel => exact ⟨q + 1, by omega, by rw [HSq.out], by go_num, hbel, HX.out.1, HX.out.2.1, HX.out.2.2, x4⟩
      · obtain rfl : q = m := by omega
        rw [HS.out.1]
        rename World => w4
        have hB4 : Below w.heap.size w w4 := hB3'.trans (hbel.mono hsz)
        have A1 := hid (memb_of w3.heap.size _ q q _ S MA' MN MC' w4 HX.out.1 hm HS.out.1 (by omega) ((HL.out.first q (Nat.le_refl _)).below hbel))
        clear hsq
        go_wp2_with fail
        refine A1.out.mono ?_
        rintro _ w5 ⟨rfl, hB5⟩
        have hB5' : Below w.heap.size w w5 := hB4.trans (hB5.mono hB4.size)
        have y2 := (hB5.cell (p := ⟨w3.heap.size + 1, 1, none⟩) (by show w3.heap.size + 1 < w4.heap.size; omega)).trans HX.out.2.1
        have y3 := (hB5.cell (p := ⟨w3.heap.size + 1 + 1, 1, none⟩) (by show w3.heap.size + 1 + 1 < w4.heap.size; omega)).trans HX.out.2.2
        have hb35 : Below w3.heap.size w3 w5 := hbel.trans (hB5.mono (by omega))
        have hs5 : w3.heap.size + 2 < w5.heap.size := Nat.lt_of_lt_of_le x4 hB5.size
        have A2 := hid (memb_of (w3.heap.size + 1) _ k q _ L MA' MN MC' w5 y2 (by omega) HS.out.2.1 (by omega) ((HL.out.first k (by omega)).below hb35))
        clear A1 HX hB5
        go_wp2_with fail
        refine A2.out.mono ?_
        rintro _ w6 ⟨rfl, hB6⟩
        have hB6' : Below w.heap.size w w6 := hB5'.trans (hB6.mono hB5'.size)
        have z3 := (hB6.cell (p := ⟨w3.heap.size + 1 + 1, 1, none⟩) (by show w3.heap.size + 1 + 1 < w5.heap.size; omega)).trans y3
        have hb36 : Below w3.heap.size w3 w6 := hb35.trans (hB6.mono (by omega))
        have A3 := hid (memb_of (w3.heap.size + 1 + 1) _ (q - k) (q - k) _ R _ _ _ w6 z3 (by omega) HS.out.2.2 (by omega) ((HL.out.groups k (q - k) (by omega)).below hb36))
        clear A2 hB6 y2 y3
        go_wp2_with fail
        refine A3.out.mono ?_
        rintro _ w7 ⟨rfl, hB7⟩
        have hB7' : Below w.heap.size w w7 := hB6'.trans (hB7.mono hB6'.size)
        go_wp2
        go_ret
        exact ⟨ret_bool (by simp; omega), hB7'⟩
end Go.Proofs.Qxb6630111a
