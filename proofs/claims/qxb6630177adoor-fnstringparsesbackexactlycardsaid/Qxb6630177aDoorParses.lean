/-
  Seat b6630177aD: FnStringParsesBackExactly, the main walk.
-/
import Derived.Test.Qxb6630177aDoorWhole
import Derived.Test.Qxb6630177aDoorRead
import Derived.Deep.RegionHeld3
namespace Go.Proofs.Qxb6630177aDoor
open Go.RowKit Go.Lib

/-- zzExpectByte at this text and place moves on to y -/
def Exp (T : ByteArray) (x c y : Int) : Prop := ∀ w : World, Calls Tryd.prog 9 #[.string T, .int .i64 x, .int .u8 c] w fun e w' => e = .returned (.tuple #[.int .i64 y, .bool true]) ∧ w = w'
/-- zzReadDec at this text and place reads u and moves on to y -/
def Rd (T : ByteArray) (x u y : Int) : Prop := ∀ w : World, Calls Tryd.prog 10 #[.string T, .int .i64 x] w fun e w' => e = .returned (.tuple #[.int .u64 u, .int .i64 y, .bool true]) ∧ w = w'
theorem exp_of {T : ByteArray} {p : Nat} {b : UInt8} {c : Int} (hs : (T.size : Int) ≤ 4200000) (h : ∃ h : p < T.size, T[p] = b) (hc : c = (b.toNat : Int)) : Exp T (p : Int) c ((p + 1 : Nat) : Int) := fun w => by
  obtain ⟨hp, hb⟩ := h
  exact expect9 T p b c w hs hp hb hc
theorem rd_of {T : ByteArray} {p u : Nat} (hs : (T.size : Int) ≤ 4200000) (hu : u < 18446744073709551616) (h : Spot T p (decDigits u)) (he : Ends T (p + (decDigits u).length)) : Rd T (p : Int) (u : Int) ((p + (decDigits u).length : Nat) : Int) := fun w => read10 T p u w hs hu h he

theorem round_calls {D S Q : Nat → Nat} {n k : Nat} {T : ByteArray} (hk : k < n) (hT : T = ⟨(txt D S Q n).toArray⟩) (hs : (T.size : Int) ≤ 4200000) (hf : Fit n D S Q) :
    ∃ P1 P2 P3 P4 P5 : Int, (0 < k → Exp T ((txt D S Q k).length : Int) 44 P1) ∧ (k = 0 → P1 = ((txt D S Q k).length : Int)) ∧ Rd T P1 (D k : Nat) P2 ∧ Exp T P2 45 P3 ∧ Rd T P3 (S k : Nat) P4 ∧ Exp T P4 45 P5 ∧ Rd T P5 (Q k : Nat) ((txt D S Q (k + 1)).length : Int) := by
  have M := marks D S Q n k hk
  rw [← hT] at M
  obtain ⟨f1, f2, f3⟩ := hf k hk
  refine ⟨_, _, _, _, _, ?_, ?_, rd_of hs (by omega) M.dom M.end1, exp_of hs M.dash1 rfl, rd_of hs (by omega) M.srv M.end2, exp_of hs M.dash2 rfl, ?_⟩
  · intro h0
    have e : (sep k).length = 1 := by unfold sep; rw [if_neg (by omega)]; rfl
    rw [e]
    exact exp_of hs (M.comma h0) rfl
  · intro h0
    have e : (sep k).length = 0 := by unfold sep; rw [if_pos h0]; rfl
    rw [e]
    rfl
  · have h := rd_of hs f3 M.seq (by rw [M.last]; exact M.ends)
    rw [M.last] at h
    exact h

set_option maxRecDepth 1000000 in
set_option maxHeartbeats 16000000 in
theorem parses_main (a1 a2 a3 : Option Addr) (n c1 c2 c3 : Nat) (D S Q : Nat → Nat) (w : World) (hn : (n : Int) ≤ 65536) (h1 : Ints .u32 w a1 n D) (h2 : Ints .u32 w a2 n S) (h3 : Ints .u64 w a3 n Q)
    (hf : Fit n D S Q) (htab : TabIs Tryd.prog w pow10Name .u64 pow10Tab) :
    Calls Tryd.prog 3 #[.slice a1 n c1, .slice a2 n c2, .slice a3 n c3] w fun e w' => e = .returned (.bool true) ∧ Below w.heap.size w w' := by
  have hq22 := fun (w : World) (a : Option Addr) (n c n' c' : Nat) => run_neq_slice_nil_any (P := Tryd.prog) w 22 36 a n c n' c' Tryd.underlying22
  have hq23 := fun (w : World) (a : Option Addr) (n c n' c' : Nat) => run_neq_slice_nil_any (P := Tryd.prog) w 23 33 a n c n' c' Tryd.underlying23
  have HI := Lib.hid (And.intro h1 (And.intro h2 h3))
  have HF := Lib.hid hf
  have HT := Lib.hid (tabBelow_of_tabIs htab)
  clear h1 h2 h3 hf htab
  go_enter Tryd.func3, Tryd.ntmps3
  go_wp2_with fail
  refine (bytes5 _ _ _ _ _ _ _ _ hn).mono ?_
  rintro _ _ ⟨rfl, rfl⟩
  go_wp2_with fail
  refine (asc6 a1 c1 n D w hn HI.out.1).mono ?_
  rintro _ wy ⟨b, rfl, hBy⟩
  cases b
  · go_wp2
    go_ret
    exact ⟨rfl, hBy⟩
  go_upto_if 46 with fail
  go_cut [0] (fun s0 wx => ∃ ao' c', s0 = .slice ao' n c' ∧ n ≤ c' ∧ Ints .u32 wx ao' n D ∧ Below wy.heap.size wy wx)
  case first =>
    rcases a1 with _ | ad
    · go_wp2
      go_meet
      case rel => exact ⟨none, c1, rfl, Ints.none_le (HI.out.1.below hBy) _, (HI.out.1.below hBy), Below.refl _ _⟩
    · have hmk := run_make22 n hn
      go_upto_region 15 with fail
      go_wp2_with (refine wpList_copy_splice rfl (.tmp 50) (.tmp 51) 22 22 rfl 36 Tryd.underlying22 Tryd.size36 (some ⟨wy.heap.size, 0, none⟩) (some ad) n n n c1 rfl rfl wy.heap.size 0 (List.replicate n (.int .u32 0)) 36 (made_block wy n _ 36) (cells .u32 D n) (by rw [cells_length]; simp) (copy_from (HI.out.1.below hBy) ((Below.refl wy.heap.size wy).alloc (Nat.le_refl _) _)) (by rw [cells_length]; simp) (cells_one _ _ _) wy.heap.size wy ((Below.refl wy.heap.size wy).alloc (Nat.le_refl _) _) (Nat.le_refl _) ?_; intro w2 hg2 hb2)
      go_meet
      case rel => exact ⟨some ⟨wy.heap.size, 0, none⟩, n, rfl, Nat.le_refl _, copy_to hg2.out, hb2⟩
  case rest =>
    rename World => wx1
    obtain ⟨a1', c1', rfl, hc1', hI1, hB1⟩ := hcut
    have HI1 := Lib.hid hI1
    clear hI1
    go_upto_if 55 with fail
    go_cut [1] (fun s0 wx => ∃ ao' c', s0 = .slice ao' n c' ∧ n ≤ c' ∧ Ints .u32 wx ao' n S ∧ Below wx1.heap.size wx1 wx)
    case first =>
      rcases a2 with _ | ad
      · go_wp2
        go_meet
        case rel => exact ⟨none, c2, rfl, Ints.none_le (HI.out.2.1.below (hBy.trans (hB1.mono hBy.size))) _, (HI.out.2.1.below (hBy.trans (hB1.mono hBy.size))), Below.refl _ _⟩
      · have hmk := run_make22 n hn
        go_upto_region 19 with fail
        go_wp2_with (refine wpList_copy_splice rfl (.tmp 59) (.tmp 60) 22 22 rfl 36 Tryd.underlying22 Tryd.size36 (some ⟨wx1.heap.size, 0, none⟩) (some ad) n n n c2 rfl rfl wx1.heap.size 0 (List.replicate n (.int .u32 0)) 36 (made_block wx1 n _ 36) (cells .u32 S n) (by rw [cells_length]; simp) (copy_from (HI.out.2.1.below (hBy.trans (hB1.mono hBy.size))) ((Below.refl wx1.heap.size wx1).alloc (Nat.le_refl _) _)) (by rw [cells_length]; simp) (cells_one _ _ _) wx1.heap.size wx1 ((Below.refl wx1.heap.size wx1).alloc (Nat.le_refl _) _) (Nat.le_refl _) ?_; intro w2 hg2 hb2)
        go_meet
        case rel => exact ⟨some ⟨wx1.heap.size, 0, none⟩, n, rfl, Nat.le_refl _, copy_to hg2.out, hb2⟩
    case rest =>
      rename World => wx2
      obtain ⟨a2', c2', rfl, hc2', hI2, hB2⟩ := hcut
      have HI2 := Lib.hid hI2
      clear hI2
      go_upto_if 64 with fail
      go_cut [2] (fun s0 wx => ∃ ao' c', s0 = .slice ao' n c' ∧ n ≤ c' ∧ Ints .u64 wx ao' n Q ∧ Below wx2.heap.size wx2 wx)
      case first =>
        rcases a3 with _ | ad
        · go_wp2
          go_meet
          case rel => exact ⟨none, c3, rfl, Ints.none_le (HI.out.2.2.below ((hBy.trans (hB1.mono hBy.size)).trans (hB2.mono (Nat.le_trans hBy.size hB1.size)))) _, (HI.out.2.2.below ((hBy.trans (hB1.mono hBy.size)).trans (hB2.mono (Nat.le_trans hBy.size hB1.size)))), Below.refl _ _⟩
        · have hmk := run_make23 n hn
          go_upto_region 23 with fail
          go_wp2_with (refine wpList_copy_splice rfl (.tmp 68) (.tmp 69) 23 23 rfl 33 Tryd.underlying23 Tryd.size33 (some ⟨wx2.heap.size, 0, none⟩) (some ad) n n n c3 rfl rfl wx2.heap.size 0 (List.replicate n (.int .u64 0)) 33 (made_block wx2 n _ 33) (cells .u64 Q n) (by rw [cells_length]; simp) (copy_from (HI.out.2.2.below ((hBy.trans (hB1.mono hBy.size)).trans (hB2.mono (Nat.le_trans hBy.size hB1.size)))) ((Below.refl wx2.heap.size wx2).alloc (Nat.le_refl _) _)) (by rw [cells_length]; simp) (cells_one _ _ _) wx2.heap.size wx2 ((Below.refl wx2.heap.size wx2).alloc (Nat.le_refl _) _) (Nat.le_refl _) ?_; intro w2 hg2 hb2)
          go_meet
          case rel => exact ⟨some ⟨wx2.heap.size, 0, none⟩, n, rfl, Nat.le_refl _, copy_to hg2.out, hb2⟩
      case rest =>
        rename World => wx3
        obtain ⟨a3', c3', rfl, hc3', hI3, hB3⟩ := hcut
        have HI3 := Lib.hid hI3
        clear hI3
        have I1 := Lib.hid ((HI1.out.below hB2).below hB3)
        have I2 := Lib.hid (HI2.out.below hB3)
        have hB : Below w.heap.size w wx3 := hBy.trans (((hB1.trans (hB2.mono hB1.size)).trans (hB3.mono (Nat.le_trans hB1.size hB2.size))).mono hBy.size)
        clear hq22 hq23 HI1 HI2 hB1 hB2 hB3 HI hBy
        go_wp2_with fail
        refine (newpos_any a1' a2' a3' c1' c2' c3' n D S Q wx3 hn I1.out I2.out HI3.out).mono ?_
        rintro _ w5 ⟨rfl, hB5, hG5⟩
        have HG5 := Lib.hid hG5
        have hB5' : Below w.heap.size w w5 := hB.trans (hB5.mono hB.size)
        have K1 := Lib.hid (I1.out.below hB5)
        have K2 := Lib.hid (I2.out.below hB5)
        have K3 := Lib.hid (HI3.out.below hB5)
        clear I1 I2 HI3 hG5 hB5 hB
        go_wp2_with fail
        refine (string_any _ n n D S Q w5 hn HG5.out HF.out (HT.out _ hB5')).mono ?_
        rintro _ w6 ⟨rfl, hB6⟩
        have hB6' : Below w.heap.size w w6 := hB5'.trans (hB6.mono hB5'.size)
        have L1 := Lib.hid (K1.out.below hB6)
        have L2 := Lib.hid (K2.out.below hB6)
        have L3 := Lib.hid (K3.out.below hB6)
        clear K1 K2 K3 HG5 hB5' hB6
        obtain ⟨T, hT⟩ : ∃ T, T = (⟨(txt D S Q n).toArray⟩ : ByteArray) := ⟨_, rfl⟩
        rw [← hT]
        have HWF := Lib.hid (whole_of HF.out hT)
        have hsz : (T.size : Int) ≤ 4200000 := by have := HWF.out.size; omega
        have HTT := Lib.hid hT
        clear hT HT
        go_wp2
        go_loopg [12, 13] n (fun g x i wr => ∃ k : Nat, k + g = n ∧ x = .int .i64 ((txt D S Q k).length : Int) ∧ i = .int .i64 k ∧ Below w6.heap.size w6 wr)
        case atStart => exact ⟨0, Nat.zero_add _, rfl, rfl, Below.refl _ _⟩
        case round =>
          obtain ⟨k, hk0, rfl, rfl, hbel⟩ := hrel
          have hk : k ≤ n := by omega
          have HK := Lib.hid hk0
          clear hk0
          by_cases hlt : k < n
          · obtain ⟨f1, f2, f3⟩ := HF.out k hlt
            have HFK := Lib.hid (And.intro f1 f2)
            clear f1 f2 f3
            obtain ⟨P1, P2, P3, P4, P5, c0, c1, c2, c3, c4, c5, c6⟩ := round_calls hlt HTT.out hsz HF.out
            obtain ⟨P0, hP0⟩ : ∃ P : Int, P = ((txt D S Q k).length : Int) := ⟨_, rfl⟩
            obtain ⟨P6, hP6⟩ : ∃ P : Int, P = ((txt D S Q (k + 1)).length : Int) := ⟨_, rfl⟩
            rw [← hP0] at c0 c1 ⊢
            rw [← hP6] at c6
            have HP6 := Lib.hid hP6
            clear hP0 hP6
            have C1 := Lib.hid c2
            have C2 := Lib.hid c3
            have C3 := Lib.hid c4
            have C4 := Lib.hid c5
            have C5 := Lib.hid c6
            clear c2 c3 c4 c5 c6
            rcases (L1.out.below hbel) with h | ⟨b1, o1, rfl, hb1, hc1⟩
            · omega
            rcases (L2.out.below hbel) with h | ⟨b2, o2, rfl, hb2, hc2⟩
            · omega
            rcases (L3.out.below hbel) with h | ⟨b3, o3, rfl, hb3, hc3⟩
            · omega
            have d1 := hc1 k hlt
            have d2 := hc2 k hlt
            have d3 := hc3 k hlt
            clear hc1 hc2 hc3
            obtain ⟨dv, hdv⟩ : ∃ v : Int, v = ((D k : Nat) : Int) := ⟨_, rfl⟩
            obtain ⟨sv, hsv⟩ : ∃ v : Int, v = ((S k : Nat) : Int) := ⟨_, rfl⟩
            obtain ⟨qv, hqv⟩ : ∃ v : Int, v = ((Q k : Nat) : Int) := ⟨_, rfl⟩
            have g1 : 0 ≤ dv := by omega
            have g2 : 0 ≤ sv := by omega
            have g3 : dv < 4294967296 := by have := HFK.out.1; omega
            have g4 : sv < 4294967296 := by have := HFK.out.2; omega
            rw [← hdv] at d1 C1
            rw [← hsv] at d2 C3
            rw [← hqv] at d3 C5
            clear hdv hsv hqv HFK
            by_cases hz : k = 0
            · obtain rfl := c1 hz
              clear c0 c1
              have hz0 : ¬ 0 < (k : Int) := by omega
              clear hz
              go_wp2_with fail
              refine (C1.out _).mono ?_
              rintro _ _ ⟨rfl, rfl⟩
              go_wp2_with fail
              refine (C2.out _).mono ?_
              rintro _ _ ⟨rfl, rfl⟩
              go_wp2_with fail
              refine (C3.out _).mono ?_
              rintro _ _ ⟨rfl, rfl⟩
              go_wp2_with fail
              refine (C4.out _).mono ?_
              rintro _ _ ⟨rfl, rfl⟩
              go_wp2_with fail
              refine (C5.out _).mono ?_
              rintro _ _ ⟨rfl, rfl⟩
              go_wp2
              have hk1 := HK.out
              go_roundg (gk - 1)
              case measure => omega
              case rel => exact ⟨k + 1, by omega, by rw [HP6.out], by go_num, hbel⟩
            · have C0 := Lib.hid (c0 (by omega))
              clear c0 c1
              have hz1 : 0 < (k : Int) := by omega
              go_wp2_with fail
              refine (C0.out _).mono ?_
              rintro _ _ ⟨rfl, rfl⟩
              go_wp2_with fail
              refine (C1.out _).mono ?_
              rintro _ _ ⟨rfl, rfl⟩
              go_wp2_with fail
              refine (C2.out _).mono ?_
              rintro _ _ ⟨rfl, rfl⟩
              go_wp2_with fail
              refine (C3.out _).mono ?_
              rintro _ _ ⟨rfl, rfl⟩
              go_wp2_with fail
              refine (C4.out _).mono ?_
              rintro _ _ ⟨rfl, rfl⟩
              go_wp2_with fail
              refine (C5.out _).mono ?_
              rintro _ _ ⟨rfl, rfl⟩
              go_wp2
              have hk1 := HK.out
              go_roundg (gk - 1)
              case measure => omega
              case rel => exact ⟨k + 1, by omega, by rw [HP6.out], by go_num, hbel⟩
          · obtain rfl : k = n := by omega
            have hTS : ((txt D S Q k).length : Int) = (T.size : Int) := by rw [HTT.out]; rfl
            rw [hTS]
            clear hTS
            have hBz := hB6'.trans (hbel.mono hB6'.size)
            go_wp2
            go_ret
            exact ⟨rfl, hBz⟩
end Go.Proofs.Qxb6630177aDoor
