import Derived.Test.Qxb6630111aMoreParts
namespace Go.Proofs.Qxb6630111a
open Go.RowKit

set_option maxRecDepth 1000000 in
set_option maxHeartbeats 8000000 in
theorem more_app (ao : Option Addr) (a : Addr) (n cap m gcap : Nat) (EA : Nat → Option Addr) (EN EC : Nat → Nat) (MA : Nat → Option Addr) (MN MC : Nat → Nat) (id role : ByteArray) (w : World)
    (hI : In w ao (some a) n m EA EN EC MA MN MC) (hb1 : n + sum EN n ≤ 1048576) (hb2 : m + sum MN m ≤ 1048576) (S : Nat) (hS : sum MN m = S) (p : Int) :
    Calls Try.prog 4 #[.slice ao n cap, .slice (some a) m gcap, .int .i64 m, .int .i64 p, .string id, .string role] w fun r w' => r = .returned (.bool true) ∧ Below w.heap.size w w' := by
  have q3 : (S : Int) ≤ 1048576 := by omega
  obtain ⟨hn, hEN⟩ := small hb1
  obtain ⟨hm, hMN⟩ := small hb2
  have HI := hid hI
  have HE := hid hEN
  have HM := hid hMN
  have HS := hid hS
  have HB := hid (And.intro hb1 hb2)
  clear hI hEN hMN hS hb1 hb2
  go_enter Try.func4, Try.ntmps4
  go_wp2_with fail
  refine (bytes10 ao (some a) n cap m gcap EA EN EC MA MN MC _ _ id role w HI.out.p HI.out.g).mono ?_
  rintro _ _ ⟨b, rfl, rfl, _⟩
  cases b
  · go_wp2
    go_ret
    exact ⟨rfl, Below.refl _ _⟩
  go_wp2_with fail
  refine (within ao (some a) n cap m gcap EA EN EC MA MN MC _ w hn hm HE.out HM.out HI.out.p HI.out.g).mono ?_
  rintro _ w1 ⟨b, rfl, hB1⟩
  cases b
  · go_wp2
    go_ret
    exact ⟨rfl, hB1⟩
  have HI1 := hid (HI.out.below hB1)
  clear HI
  go_wp2_with fail
  refine (people_any ao n cap EA EN EC w1 hn HE.out HI1.out.e0 HI1.out.p0 HI1.out.p).mono ?_
  rintro _ w2 ⟨pa, pn, pc, rfl, hB2⟩
  have HI2 := hid (HI1.out.below hB2)
  have hB2' : Below w.heap.size w w2 := hB1.trans (hB2.mono hB1.size)
  clear HI1 hB1 hB2
  go_wp2_with fail
  refine (groups_row a m gcap MA MN MC w2 hm HM.out HI2.out.m0 HI2.out.g).mono ?_
  rintro _ w3 ⟨rfl, hB3, f3, MA3, MC3, hl3⟩
  have HI3 := hid ((HI2.out.below hB3).below ((Below.refl w3.heap.size w3).alloc (Nat.le_refl _) (.cells #[.slice pa pn pc, .slice (some ⟨w2.heap.size, 0, none⟩) m m] 31)))
  have hB3' : Below w.heap.size w (w3.alloc (.cells #[.slice pa pn pc, .slice (some ⟨w2.heap.size, 0, none⟩) m m] 31)) := (hB2'.trans (hB3.mono hB2'.size)).alloc (Nat.le_trans hB2'.size hB3.size) _
  have A3 := hid (memb_row w3.heap.size (some ⟨w2.heap.size, 0, none⟩) m m S MN _ (cell_box w3 (.slice pa pn pc) (.slice (some ⟨w2.heap.size, 0, none⟩) m m) 31) hm HS.out (by omega) ((hl3.first m (Nat.le_refl _)).rowed.below ((Below.refl _ _).alloc (Nat.le_refl _) _)))
  clear HI2 hB2' hB3 hl3
  go_wp2_with fail
  refine A3.out.mono ?_
  rintro _ w4 ⟨rfl, hB4⟩
  have HI4 := hid (HI3.out.below hB4)
  have hB4' : Below w.heap.size w w4 := hB3'.trans (hB4.mono hB3'.size)
  clear A3 HI3 hB3' hB4
  go_wp2_with fail
  refine (groups_row a m gcap MA MN MC w4 hm HM.out HI4.out.m0 HI4.out.g).mono ?_
  rintro _ w5 ⟨rfl, hB5, f5, MA5, MC5, hl5⟩
  have HI5 := hid ((HI4.out.below hB5).below ((Below.refl w5.heap.size w5).alloc (Nat.le_refl _) (.cells #[.slice none 0 0, .slice (some ⟨w4.heap.size, 0, none⟩) m m] 31)))
  have hB5' : Below w.heap.size w (w5.alloc (.cells #[.slice none 0 0, .slice (some ⟨w4.heap.size, 0, none⟩) m m] 31)) := (hB4'.trans (hB5.mono hB4'.size)).alloc (Nat.le_trans hB4'.size hB5.size) _
  have A5 := hid (memb_row w5.heap.size (some ⟨w4.heap.size, 0, none⟩) m m S MN _ (cell_box w5 (.slice none 0 0) (.slice (some ⟨w4.heap.size, 0, none⟩) m m) 31) hm HS.out (by omega) ((hl5.first m (Nat.le_refl _)).rowed.below ((Below.refl _ _).alloc (Nat.le_refl _) _)))
  clear HI4 hB4' hB5 hl5
  go_wp2_with fail
  refine A5.out.mono ?_
  rintro _ w6 ⟨rfl, hB6⟩
  have HI6 := hid (HI5.out.below hB6)
  have hB6' : Below w.heap.size w w6 := hB5'.trans (hB6.mono hB5'.size)
  clear A5 HI5 hB5' hB6
  go_wp2_with fail
  refine (groups_row a m gcap MA MN MC w6 hm HM.out HI6.out.m0 HI6.out.g).mono ?_
  rintro _ w7 ⟨rfl, hB7, f7, MA7, MC7, hl7⟩
  have hB7' : Below w.heap.size w w7 := hB6'.trans (hB7.mono hB6'.size)
  have hs67 : w6.heap.size < w7.heap.size := hl7.1.lt
  have hs06 : w.heap.size ≤ w6.heap.size := hB6'.size
  have HL := hid hl7
  clear HI6 hB6' hB7 hl7
  have hsz := hB7'.size
  have HO := hid ((((HL.out.owns hs06 (by unfold maxLen; omega)).alloc (.cells #[.string id, .string role] 39)).alloc (.cells #[.string id, .string role] 39)).alloc (.cells #[.string id, .string ByteArray.empty, .string ByteArray.empty, .slice (some ⟨w7.heap.size + 1, 0, none⟩) 1 1] 42))
  obtain ⟨i0, hi, hz0, hz1, hz2⟩ := info_parts Try.info42
  have HT := hid (And.intro hi (And.intro hz0 (And.intro hz1 hz2)))
  clear hi hz0 hz1 hz2
  go_wp2_with (at_builtin; refine wpList_append_own _ rfl (.tmp 88) (.tmp 93) 27 rfl w.heap.size 42 i0 _ 4 72 Try.underlying27 HT.out.1 HT.out.2.1 HT.out.2.2.1 HT.out.2.2.2 rfl (by decide) _ m _ rfl HO.out ⟨w7.heap.size + 1 + 1, 0, none⟩ 1 1 [.string id, .string ByteArray.empty, .string ByteArray.empty, .slice (some ⟨w7.heap.size + 1, 0, none⟩) 1 1] rfl rfl (cell_four_at (by simp)) (oneCell4 _ _ _ _ _ _) (by unfold maxLen; omega) (by omega) (by simp; omega) ?_; intro v' w8 hown8 hgr8 _; obtain ⟨g', c', rfl, hR⟩ := appended hown8 HL.out.told; refine Hid.out ?_)
  refine hid ?_
  have hB8 : Below w.heap.size w w8 := (((hB7'.alloc hsz _).alloc (by simp; omega) _).alloc (by simp; omega) _).grown hgr8 (by simp; omega) (fun j hj => by cases hj; exact hs06)
  have A8 := hid (memb_row w8.heap.size (some ⟨g', 0, none⟩) (m + 1) c' (S + 1) (fun i => if i = m then 1 else MN i) _ (cell_box w8 (.slice pa pn pc) (.slice (some ⟨g', 0, none⟩) (m + 1) c') 31) (by have := HB.out.2; omega) (by rw [sum_last, HS.out]) (by omega) (hR.below ((Below.refl _ _).alloc (Nat.le_refl _) _)))
  clear hown8 hgr8 HO hR HT
  go_wp2_with fail
  refine A8.out.mono ?_
  rintro _ w9 ⟨rfl, hB9⟩
  have hB9' : Below w.heap.size w w9 := (hB8.alloc hB8.size _).trans (hB9.mono (by simp; have := hB8.size; omega))
  go_wp2
  go_ret
  exact ⟨ret_bool (by simp), hB9'⟩

set_option maxRecDepth 1000000 in
set_option maxHeartbeats 8000000 in
theorem more_app_nil (ao : Option Addr) (n cap gcap : Nat) (EA : Nat → Option Addr) (EN EC : Nat → Nat) (MA : Nat → Option Addr) (MN MC : Nat → Nat) (id role : ByteArray) (w : World)
    (hI : In w ao none n 0 EA EN EC MA MN MC) (hb1 : n + sum EN n ≤ 1048576) (hb2 : 0 + sum MN 0 ≤ 1048576) (S : Nat) (hS : sum MN 0 = S) (p : Int) :
    Calls Try.prog 4 #[.slice ao n cap, .slice none 0 gcap, .int .i64 0, .int .i64 p, .string id, .string role] w fun r w' => r = .returned (.bool true) ∧ Below w.heap.size w w' := by
  have q3 : (S : Int) ≤ 1048576 := by omega
  obtain ⟨hn, hEN⟩ := small hb1
  obtain ⟨hm, hMN⟩ := small hb2
  have HI := hid hI
  have HE := hid hEN
  have HM := hid hMN
  have HS := hid hS
  have HB := hid (And.intro hb1 hb2)
  clear hI hEN hMN hS hb1 hb2
  go_enter Try.func4, Try.ntmps4
  go_wp2_with fail
  refine (bytes10 ao none n cap 0 gcap EA EN EC MA MN MC _ _ id role w HI.out.p HI.out.g).mono ?_
  rintro _ _ ⟨b, rfl, rfl, _⟩
  cases b
  · go_wp2
    go_ret
    exact ⟨rfl, Below.refl _ _⟩
  go_wp2_with fail
  refine (within ao none n cap 0 gcap EA EN EC MA MN MC _ w hn hm HE.out HM.out HI.out.p HI.out.g).mono ?_
  rintro _ w1 ⟨b, rfl, hB1⟩
  cases b
  · go_wp2
    go_ret
    exact ⟨rfl, hB1⟩
  have HI1 := hid (HI.out.below hB1)
  clear HI
  go_wp2_with fail
  refine (people_any ao n cap EA EN EC w1 hn HE.out HI1.out.e0 HI1.out.p0 HI1.out.p).mono ?_
  rintro _ w2 ⟨pa, pn, pc, rfl, hB2⟩
  have HI2 := hid (HI1.out.below hB2)
  have hB2' : Below w.heap.size w w2 := hB1.trans (hB2.mono hB1.size)
  clear HI1 hB1 hB2
  go_wp2_with fail
  refine (groups_nil w2 gcap).mono ?_
  rintro _ _ ⟨rfl, rfl⟩
  have hB3' : Below w.heap.size w (w2.alloc (.cells #[.slice pa pn pc, .slice none 0 0] 31)) := hB2'.alloc hB2'.size _
  have A3 := hid (memb_row w2.heap.size none 0 0 S MN _ (cell_box w2 (.slice pa pn pc) (.slice none 0 0) 31) (by omega) HS.out (by omega) (.inl rfl))
  clear HI2 hB2'
  go_wp2_with fail
  refine A3.out.mono ?_
  rintro _ w4 ⟨rfl, hB4⟩
  have hB4' : Below w.heap.size w w4 := hB3'.trans (hB4.mono hB3'.size)
  clear A3 hB3' hB4
  go_wp2_with fail
  refine (groups_nil w4 gcap).mono ?_
  rintro _ _ ⟨rfl, rfl⟩
  have hB5' : Below w.heap.size w (w4.alloc (.cells #[.slice none 0 0, .slice none 0 0] 31)) := hB4'.alloc hB4'.size _
  have A5 := hid (memb_row w4.heap.size none 0 0 S MN _ (cell_box w4 (.slice none 0 0) (.slice none 0 0) 31) (by omega) HS.out (by omega) (.inl rfl))
  clear hB4'
  go_wp2_with fail
  refine A5.out.mono ?_
  rintro _ w7 ⟨rfl, hB6⟩
  have hB7' : Below w.heap.size w w7 := hB5'.trans (hB6.mono hB5'.size)
  clear A5 hB5' hB6
  go_wp2_with fail
  refine (groups_nil w7 gcap).mono ?_
  rintro _ _ ⟨rfl, rfl⟩
  have hsz := hB7'.size
  have HO := hid ((((World.ownsRow_nil w7 w.heap.size 42 4).alloc (.cells #[.string id, .string role] 39)).alloc (.cells #[.string id, .string role] 39)).alloc (.cells #[.string id, .string ByteArray.empty, .string ByteArray.empty, .slice (some ⟨w7.heap.size + 1, 0, none⟩) 1 1] 42))
  obtain ⟨i0, hi, hz0, hz1, hz2⟩ := info_parts Try.info42
  have HT := hid (And.intro hi (And.intro hz0 (And.intro hz1 hz2)))
  clear hi hz0 hz1 hz2
  go_wp2_with (at_builtin; refine wpList_append_own _ rfl (.tmp 88) (.tmp 93) 27 rfl w.heap.size 42 i0 _ 4 72 Try.underlying27 HT.out.1 HT.out.2.1 HT.out.2.2.1 HT.out.2.2.2 rfl (by decide) _ 0 _ rfl HO.out ⟨w7.heap.size + 1 + 1, 0, none⟩ 1 1 [.string id, .string ByteArray.empty, .string ByteArray.empty, .slice (some ⟨w7.heap.size + 1, 0, none⟩) 1 1] rfl rfl (cell_four_at (by simp)) (oneCell4 _ _ _ _ _ _) (by unfold maxLen; omega) (by omega) (by simp; omega) ?_; intro v' w8 hown8 hgr8 _; obtain ⟨g', c', rfl, hR⟩ := appended_nil MN hown8; refine Hid.out ?_)
  refine hid ?_
  have hB8 : Below w.heap.size w w8 := (((hB7'.alloc hsz _).alloc (by simp; omega) _).alloc (by simp; omega) _).grown hgr8 (by simp; omega) (fun j hj => by cases hj)
  have A8 := hid (memb_row w8.heap.size (some ⟨g', 0, none⟩) 1 c' (S + 1) (fun i => if i = 0 then 1 else MN i) _ (cell_box w8 (.slice pa pn pc) (.slice (some ⟨g', 0, none⟩) 1 c') 31) (by have := HB.out.2; omega) (by rw [sum_last, HS.out]) (by omega) (hR.below ((Below.refl _ _).alloc (Nat.le_refl _) _)))
  clear hown8 hgr8 HO hR HT
  go_wp2_with fail
  refine A8.out.mono ?_
  rintro _ w9 ⟨rfl, hB9⟩
  have hB9' : Below w.heap.size w w9 := (hB8.alloc hB8.size _).trans (hB9.mono (by simp; have := hB8.size; omega))
  go_wp2
  go_ret
  exact ⟨ret_bool (by simp), hB9'⟩
end Go.Proofs.Qxb6630111a
