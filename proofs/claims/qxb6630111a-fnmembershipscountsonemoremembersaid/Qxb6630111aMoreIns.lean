import Derived.Test.Qxb6630111aMoreParts
namespace Go.Proofs.Qxb6630111a
open Go.RowKit

set_option maxRecDepth 1000000 in
set_option maxHeartbeats 8000000 in
theorem more_ins (ao : Option Addr) (a : Addr) (n cap m gcap : Nat) (EA : Nat → Option Addr) (EN EC : Nat → Nat) (MA : Nat → Option Addr) (MN MC : Nat → Nat) (id role : ByteArray) (w : World)
    (hI : In w ao (some a) n m EA EN EC MA MN MC) (hb1 : n + sum EN n ≤ 1048576) (hb2 : m + sum MN m ≤ 1048576) (S : Nat) (hS : sum MN m = S) (gi ps : Nat) (hgi : gi < m) (hps : ps ≤ MN gi) :
    Calls Try.prog 4 #[.slice ao n cap, .slice (some a) m gcap, .int .i64 gi, .int .i64 ps, .string id, .string role] w fun r w' => r = .returned (.bool true) ∧ Below w.heap.size w w' := by
  have q3 : (S : Int) ≤ 1048576 := by omega
  obtain ⟨hn, hEN⟩ := small hb1
  obtain ⟨hm, hMN⟩ := small hb2
  have HI := hid hI
  have HE := hid hEN
  have HM := hid hMN
  have HS := hid hS
  have HB := hid (And.intro hb1 hb2)
  clear hI hEN hMN hS hb1 hb2
  obtain ⟨on, hon⟩ : ∃ x, MN gi = x := ⟨_, rfl⟩
  have HON := hid hon
  have hone : (on : Int) ≤ 1048576 := by have := sum_at MN hgi; have := HB.out.2; omega
  rw [hon] at hps
  clear hon
  go_enter Try.func4, Try.ntmps4
  go_wp2_with fail
  refine (bytes10 ao (some a) n cap m gcap EA EN EC MA MN MC _ _ id role w HI.out.p HI.out.g).mono ?_
  rintro _ _ ⟨b, rfl, rfl, _⟩
  cases b
  · go_wp2
    go_ret
    exact ⟨rfl, Below.refl _ _⟩
  go_wp2_with fail
  refine (within ao (some a) n cap m gcap EA EN EC MA MN MC _ w hn hm HE.out HM.out HI.out.p HI.out.g).mono ?_
  rintro _ w1 ⟨b, rfl, hB1⟩
  cases b
  · go_wp2
    go_ret
    exact ⟨rfl, hB1⟩
  have HI1 := hid (HI.out.below hB1)
  clear HI
  rcases HI1.out.g with h | ⟨b, off, hab, hb, hc⟩
  · omega
  cases hab
  obtain ⟨_, c3, _⟩ := hc gi hgi
  clear hc
  rw [HON.out] at c3
  obtain ⟨ma, hma⟩ : ∃ x, MA gi = x := ⟨_, rfl⟩
  obtain ⟨mc, hmc⟩ : ∃ x, MC gi = x := ⟨_, rfl⟩
  rw [hma, hmc] at c3
  clear hma hmc
  go_wp2_with fail
  refine (people_any ao n cap EA EN EC w1 hn HE.out HI1.out.e0 HI1.out.p0 HI1.out.p).mono ?_
  rintro _ w2 ⟨pa, pn, pc, rfl, hB2⟩
  have HI2 := hid (HI1.out.below hB2)
  have hB2' : Below w.heap.size w w2 := hB1.trans (hB2.mono hB1.size)
  clear HI1 hB1 hB2
  go_wp2_with fail
  refine (groups_row _ m gcap MA MN MC w2 hm HM.out HI2.out.m0 HI2.out.g).mono ?_
  rintro _ w3 ⟨rfl, hB3, f3, MA3, MC3, hl3⟩
  have HI3 := hid ((HI2.out.below hB3).below ((Below.refl w3.heap.size w3).alloc (Nat.le_refl _) (.cells #[.slice pa pn pc, .slice (some ⟨w2.heap.size, 0, none⟩) m m] 31)))
  have hB3' : Below w.heap.size w (w3.alloc (.cells #[.slice pa pn pc, .slice (some ⟨w2.heap.size, 0, none⟩) m m] 31)) := (hB2'.trans (hB3.mono hB2'.size)).alloc (Nat.le_trans hB2'.size hB3.size) _
  have A3 := hid (memb_row w3.heap.size (some ⟨w2.heap.size, 0, none⟩) m m S MN _ (cell_box w3 (.slice pa pn pc) (.slice (some ⟨w2.heap.size, 0, none⟩) m m) 31) hm HS.out (by omega) ((hl3.first m (Nat.le_refl _)).rowed.below ((Below.refl _ _).alloc (Nat.le_refl _) _)))
  clear HI2 hB2' hB3 hl3
  go_wp2_with fail
  refine A3.out.mono ?_
  rintro _ w4 ⟨rfl, hB4⟩
  have HI4 := hid (HI3.out.below hB4)
  have hB4' : Below w.heap.size w w4 := hB3'.trans (hB4.mono hB3'.size)
  clear A3 HI3 hB3' hB4
  go_wp2_with fail
  refine (groups_row _ m gcap MA MN MC w4 hm HM.out HI4.out.m0 HI4.out.g).mono ?_
  rintro _ w5 ⟨rfl, hB5, f5, MA5, MC5, hl5⟩
  have HI5 := hid ((HI4.out.below hB5).below ((Below.refl w5.heap.size w5).alloc (Nat.le_refl _) (.cells #[.slice none 0 0, .slice (some ⟨w4.heap.size, 0, none⟩) m m] 31)))
  have hB5' : Below w.heap.size w (w5.alloc (.cells #[.slice none 0 0, .slice (some ⟨w4.heap.size, 0, none⟩) m m] 31)) := (hB4'.trans (hB5.mono hB4'.size)).alloc (Nat.le_trans hB4'.size hB5.size) _
  have A5 := hid (memb_row w5.heap.size (some ⟨w4.heap.size, 0, none⟩) m m S MN _ (cell_box w5 (.slice none 0 0) (.slice (some ⟨w4.heap.size, 0, none⟩) m m) 31) hm HS.out (by omega) ((hl5.first m (Nat.le_refl _)).rowed.below ((Below.refl _ _).alloc (Nat.le_refl _) _)))
  clear HI4 hB4' hB5 hl5
  go_wp2_with fail
  refine A5.out.mono ?_
  rintro _ w6 ⟨rfl, hB6⟩
  have HI6 := hid (HI5.out.below hB6)
  have hB6' : Below w.heap.size w w6 := hB5'.trans (hB6.mono hB5'.size)
  clear A5 HI5 hB5' hB6
  go_wp2_with fail
  refine (groups_row _ m gcap MA MN MC w6 hm HM.out HI6.out.m0 HI6.out.g).mono ?_
  rintro _ w7 ⟨rfl, hB7, f7, MA7, MC7, hl7⟩
  have hB7' : Below w.heap.size w w7 := hB6'.trans (hB7.mono hB6'.size)
  have hs67 : w6.heap.size < w7.heap.size := hl7.1.lt
  have hs06 : w.heap.size ≤ w6.heap.size := hB6'.size
  have HL := hid hl7
  clear HI6 hB6' hB7 hl7
  have hsz := hB7'.size
  obtain ⟨_, h4, h5⟩ := HL.out.2 gi hgi
  obtain ⟨oa, hoa⟩ : ∃ x, MA7 gi = x := ⟨_, rfl⟩
  obtain ⟨oc, hoc⟩ : ∃ x, MC7 gi = x := ⟨_, rfl⟩
  rw [hoa, HON.out, hoc] at h4
  rw [hoa, HON.out] at h5
  have hcell7 : w7.cell? ⟨w6.heap.size, gi * 4 + 3, none⟩ = some (.slice oa on oc) := by rw [HL.out.1.cell (by omega), h4]
  have HP := hid h5
  clear hoa hoc h4 h5
  obtain ⟨i0, hi, hz0, hz1, hz2⟩ := info_parts Try.info39
  have HT := hid (And.intro hi (And.intro hz0 (And.intro hz1 hz2)))
  clear hi hz0 hz1 hz2
  go_wp2_with (at_make; refine wpList_make_own _ rfl _ _ 40 rfl (w7.heap.size + 1) 39 i0 (.agg #[.string ByteArray.empty, .string ByteArray.empty]) 2 Try.underlying40 HT.out.1 HT.out.2.1 HT.out.2.2.1 .i64 .i64 _ (on + 1) rfl rfl (by omega) (by rw [HT.out.2.2.2]; omega) (by unfold maxLen; omega) (by simp) ?_; intro w9 hown9 hgr9)
  simp only [World.size_alloc] at hown9
  have hb9 : Below (w7.heap.size + 1) (w7.alloc (.cells #[.string id, .string role] 39)) w9 := (Below.refl _ _).grown hgr9 (by simp) (by intro _ h; cases h)
  clear hgr9
  go_loopg [19, 20] ps (fun g v i wr => ∃ (q : Nat) (xs : List Value), q + g = ps ∧ v = .slice (some ⟨w7.heap.size + 1, 0, none⟩) q (on + 1) ∧ i = .int .i64 q ∧ Below (w7.heap.size + 1) (w7.alloc (.cells #[.string id, .string role] 39)) wr ∧ wr.ownsRow (w7.heap.size + 1) 39 2 (.slice (some ⟨w7.heap.size + 1, 0, none⟩) q (on + 1)) q xs)
  case atStart => exact ⟨0, [], Nat.zero_add _, by simp, rfl, hb9, hown9⟩
  case round =>
    clear hb9 hown9 hcell7
    obtain ⟨q, xs, hq0, rfl, rfl, hbel, hown⟩ := hrel
    have hq : q ≤ ps := by omega
    have HQ := hid hq0
    have HO := hid hown
    clear hq0 hown
    have hb7 : Below w7.heap.size w7 wr := ((Below.refl _ _).alloc (Nat.le_refl _) _).trans (hbel.mono (by omega))
    have hszr := hbel.size
    simp only [World.size_alloc] at hszr
    by_cases hlt : q < ps
    · rcases HP.out with h | ⟨pb, po, hpa, _, hplt, hpc⟩
      · omega
      subst hpa
      obtain ⟨s, t, x0, x1⟩ := hpc q (by omega)
      have y0 := (hb7.cell (p := ⟨pb, po + q * 2, none⟩) hplt).trans x0
      have y1 := (hb7.cell (p := ⟨pb, po + q * 2 + 1, none⟩) hplt).trans x1
      clear hpc x0 x1
      go_wp2_with (at_builtin; refine wpList_append_fits _ rfl (.tmp 109) (.tmp 114) 40 rfl (w7.heap.size + 1) 39 i0 2 Try.underlying40 HT.out.1 HT.out.2.2.1 (w7.heap.size + 1) q (on + 1) _ rfl (HO.out.alloc _) ⟨wr.heap.size, 0, none⟩ 1 1 [.string s, .string t] rfl rfl (cell_two_new _ _ _ _) (oneCellS _ _) (by omega) ?_; intro w10 hown' hgr')
      have R := members_more hbel (o := .cells #[.string s, .string t] 39) hgr' (by simp; omega)
      have hq1 := HQ.out
      go_roundg (gk - 1)
      case measure => omega
      case rel => exact ⟨q + 1, _, by omega, rfl, by go_num, R, hown'⟩
    · obtain rfl : q = ps := by omega
      have z0 : wr.cell? ⟨w7.heap.size, 0, none⟩ = some (.string id) := (hbel.cell (p := ⟨w7.heap.size, 0, none⟩) (Nat.lt_succ_self _)).trans (by simp)
      have z1 : wr.cell? ⟨w7.heap.size, 1, none⟩ = some (.string role) := (hbel.cell (p := ⟨w7.heap.size, 1, none⟩) (Nat.lt_succ_self _)).trans (by simp)
      go_wp2_with (at_builtin; refine wpList_append_fits _ rfl (.tmp 116) (.tmp 118) 40 rfl (w7.heap.size + 1) 39 i0 2 Try.underlying40 HT.out.1 HT.out.2.2.1 (w7.heap.size + 1) q (on + 1) _ rfl (HO.out.alloc _) ⟨wr.heap.size, 0, none⟩ 1 1 [.string id, .string role] rfl rfl (cell_two_new _ _ _ _) (oneCellS _ _) (by omega) ?_; intro w10 hown' hgr')
      have R := members_more hbel (o := .cells #[.string id, .string role] 39) hgr' (by simp; omega)
      have HO' := hid hown'
      clear hown' hgr' HO HQ hbel z0 z1 hb7 hszr
      go_loopg [19, 21] (on - q) (fun g v i wr => ∃ (j : Nat) (xs : List Value), j + g = on ∧ q ≤ j ∧ v = .slice (some ⟨w7.heap.size + 1, 0, none⟩) (j + 1) (on + 1) ∧ i = .int .i64 j ∧ Below (w7.heap.size + 1) (w7.alloc (.cells #[.string id, .string role] 39)) wr ∧ wr.ownsRow (w7.heap.size + 1) 39 2 (.slice (some ⟨w7.heap.size + 1, 0, none⟩) (j + 1) (on + 1)) (j + 1) xs)
      case atStart => exact ⟨q, _, by omega, Nat.le_refl _, rfl, rfl, R, HO'.out⟩
      case round =>
        clear R HO'
        obtain ⟨j, xs, hj0, hqj, rfl, rfl, hbel, hown⟩ := hrel
        have hj : j ≤ on := by omega
        have HJ := hid hj0
        have HO := hid hown
        clear hj0 hown
        have hb7 : Below w7.heap.size w7 wr := ((Below.refl _ _).alloc (Nat.le_refl _) _).trans (hbel.mono (by omega))
        have hszr := hbel.size
        simp only [World.size_alloc] at hszr
        by_cases hlt : j < on
        · rcases HP.out with h | ⟨pb, po, hpa, _, hplt, hpc⟩
          · omega
          subst hpa
          obtain ⟨s, t, x0, x1⟩ := hpc j (by omega)
          have y0 := (hb7.cell (p := ⟨pb, po + j * 2, none⟩) hplt).trans x0
          have y1 := (hb7.cell (p := ⟨pb, po + j * 2 + 1, none⟩) hplt).trans x1
          clear hpc x0 x1
          go_wp2_with (at_builtin; refine wpList_append_fits _ rfl (.tmp 127) (.tmp 132) 40 rfl (w7.heap.size + 1) 39 i0 2 Try.underlying40 HT.out.1 HT.out.2.2.1 (w7.heap.size + 1) (j + 1) (on + 1) _ rfl (HO.out.alloc _) ⟨wr.heap.size, 0, none⟩ 1 1 [.string s, .string t] rfl rfl (cell_two_new _ _ _ _) (oneCellS _ _) (by omega) ?_; intro w11 hown' hgr')
          have R := members_more hbel (o := .cells #[.string s, .string t] 39) hgr' (by simp; omega)
          have hj1 := HJ.out
          go_roundg (gk - 1)
          case measure => omega
          case rel => exact ⟨j + 1, _, by omega, by omega, rfl, by go_num, R, hown'⟩
        · obtain rfl : j = on := by omega
          have hr := row_below HL.out.1 hb7 hs67
          have e3 : wr.cell? ⟨w6.heap.size, gi * 4 + 3, none⟩ = some (f7 (gi * 4 + 3)) := hr.cell (by omega)
          have e4 : wr.frozen? ⟨w6.heap.size, gi * 4 + 3, none⟩ = false := hr.frozen _
          have hBr : Below w.heap.size w wr := hB7'.trans (hb7.mono hsz)
          have hRow := stored (MN := MN) hr hgi HL.out.told (some ⟨w7.heap.size + 1, 0, none⟩) (j + 1)
          rw [HON.out] at hRow
          have hBs : Below w.heap.size w (wr.setCell ⟨w6.heap.size, gi * 4 + 3, none⟩ (.slice (some ⟨w7.heap.size + 1, 0, none⟩) (j + 1) (j + 1))) := hBr.setCell hs06 _
          have hsum : sum (fun i => if i = gi then j + 1 else MN i) m = S + 1 := by
            have := sum_bump MN hgi
            rw [HON.out, HS.out] at this
            exact this
          have A9 := hid (memb_row wr.heap.size (some ⟨w6.heap.size, 0, none⟩) m m (S + 1) _ _ (cell_box_at (w := wr.setCell ⟨w6.heap.size, gi * 4 + 3, none⟩ (.slice (some ⟨w7.heap.size + 1, 0, none⟩) (j + 1) (j + 1))) (.slice pa pn pc) (.slice (some ⟨w6.heap.size, 0, none⟩) m m) 31 (by simp [World.setCell])) hm hsum (by omega) (hRow.below ((Below.refl _ _).alloc (Nat.le_refl _) _)))
          clear hr HO HJ hb7 hbel hRow hBr HP hsum
          go_wp2_with fail
          refine A9.out.mono ?_
          rintro _ w12 ⟨rfl, hB12⟩
          have hB12' : Below w.heap.size w w12 := (hBs.alloc hBs.size _).trans (hB12.mono (by simp; have := hBs.size; omega))
          go_wp2
          go_ret
          exact ⟨ret_bool (by simp), hB12'⟩
end Go.Proofs.Qxb6630111a
