import Derived.Test.Qxb6630177aDoorWhole
import Derived.Deep.RegionHeld3
namespace Go.Proofs.Qxb6630177aDoor
open Go.RowKit Go.Lib


set_option maxRecDepth 1000000 in
set_option maxHeartbeats 16000000 in
theorem split_main (a1 a2 a3 : Option Addr) (n c1 c2 c3 k : Nat) (D S Q : Nat → Nat) (w : World) (hn : (n : Int) ≤ 65536) (hk : k ≤ n) (h1 : Ints .u32 w a1 n D) (h2 : Ints .u32 w a2 n S) (h3 : Ints .u64 w a3 n Q)
    (hf : Fit n D S Q) (htab : TabIs Tryd.prog w pow10Name .u64 pow10Tab) :
    Calls Tryd.prog 4 #[.slice a1 n c1, .slice a2 n c2, .slice a3 n c3, .int .i64 k] w fun e w' => e = .returned (.bool true) ∧ Below w.heap.size w w' := by
  have hq22 := fun (w : World) (a : Option Addr) (n c n' c' : Nat) => run_neq_slice_nil_any (P := Tryd.prog) w 22 36 a n c n' c' Tryd.underlying22
  have hq23 := fun (w : World) (a : Option Addr) (n c n' c' : Nat) => run_neq_slice_nil_any (P := Tryd.prog) w 23 33 a n c n' c' Tryd.underlying23
  have HI := Lib.hid (And.intro h1 (And.intro h2 h3))
  have HF := Lib.hid hf
  have HT := Lib.hid (tabBelow_of_tabIs htab)
  clear h1 h2 h3 hf htab
  go_enter Tryd.func4, Tryd.ntmps4
  go_wp2_with fail
  refine (bytes11 _ _ _ _ _ _ _ _ _ hn).mono ?_
  rintro _ _ ⟨rfl, rfl⟩
  go_upto_if 46 with fail
  go_cut [0] (fun s0 wx => ∃ ao' c', s0 = .slice ao' n c' ∧ n ≤ c' ∧ Ints .u32 wx ao' n D ∧ Below w.heap.size w wx)
  case first =>
    rcases a1 with _ | ad
    · go_wp2
      go_meet
      case rel => exact ⟨none, c1, rfl, Ints.none_le HI.out.1 _, HI.out.1, Below.refl _ _⟩
    · have hmk := run_make22 n hn
      go_upto_region 13 with fail
      go_wp2_with (refine wpList_copy_splice rfl (.tmp 50) (.tmp 51) 22 22 rfl 36 Tryd.underlying22 Tryd.size36 (some ⟨w.heap.size, 0, none⟩) (some ad) n n n c1 rfl rfl w.heap.size 0 (List.replicate n (.int .u32 0)) 36 (made_block w n _ 36) (cells .u32 D n) (by rw [cells_length]; simp) (copy_from HI.out.1 ((Below.refl w.heap.size w).alloc (Nat.le_refl _) _)) (by rw [cells_length]; simp) (cells_one _ _ _) w.heap.size w ((Below.refl w.heap.size w).alloc (Nat.le_refl _) _) (Nat.le_refl _) ?_; intro w2 hg2 hb2)
      go_meet
      case rel => exact ⟨some ⟨w.heap.size, 0, none⟩, n, rfl, Nat.le_refl _, copy_to hg2.out, hb2⟩
  case rest =>
    rename World => wx1
    obtain ⟨a1', c1', rfl, hc1', hI1, hB1⟩ := hcut
    have HI1 := Lib.hid hI1
    clear hI1
    go_upto_if 55 with fail
    go_cut [1] (fun s0 wx => ∃ ao' c', s0 = .slice ao' n c' ∧ n ≤ c' ∧ Ints .u32 wx ao' n S ∧ Below wx1.heap.size wx1 wx)
    case first =>
      rcases a2 with _ | ad
      · go_wp2
        go_meet
        case rel => exact ⟨none, c2, rfl, Ints.none_le (HI.out.2.1.below hB1) _, (HI.out.2.1.below hB1), Below.refl _ _⟩
      · have hmk := run_make22 n hn
        go_upto_region 17 with fail
        go_wp2_with (refine wpList_copy_splice rfl (.tmp 59) (.tmp 60) 22 22 rfl 36 Tryd.underlying22 Tryd.size36 (some ⟨wx1.heap.size, 0, none⟩) (some ad) n n n c2 rfl rfl wx1.heap.size 0 (List.replicate n (.int .u32 0)) 36 (made_block wx1 n _ 36) (cells .u32 S n) (by rw [cells_length]; simp) (copy_from (HI.out.2.1.below hB1) ((Below.refl wx1.heap.size wx1).alloc (Nat.le_refl _) _)) (by rw [cells_length]; simp) (cells_one _ _ _) wx1.heap.size wx1 ((Below.refl wx1.heap.size wx1).alloc (Nat.le_refl _) _) (Nat.le_refl _) ?_; intro w2 hg2 hb2)
        go_meet
        case rel => exact ⟨some ⟨wx1.heap.size, 0, none⟩, n, rfl, Nat.le_refl _, copy_to hg2.out, hb2⟩
    case rest =>
      rename World => wx2
      obtain ⟨a2', c2', rfl, hc2', hI2, hB2⟩ := hcut
      have HI2 := Lib.hid hI2
      clear hI2
      go_upto_if 64 with fail
      go_cut [2] (fun s0 wx => ∃ ao' c', s0 = .slice ao' n c' ∧ n ≤ c' ∧ Ints .u64 wx ao' n Q ∧ Below wx2.heap.size wx2 wx)
      case first =>
        rcases a3 with _ | ad
        · go_wp2
          go_meet
          case rel => exact ⟨none, c3, rfl, Ints.none_le (HI.out.2.2.below (hB1.trans (hB2.mono hB1.size))) _, (HI.out.2.2.below (hB1.trans (hB2.mono hB1.size))), Below.refl _ _⟩
        · have hmk := run_make23 n hn
          go_upto_region 21 with fail
          go_wp2_with (refine wpList_copy_splice rfl (.tmp 68) (.tmp 69) 23 23 rfl 33 Tryd.underlying23 Tryd.size33 (some ⟨wx2.heap.size, 0, none⟩) (some ad) n n n c3 rfl rfl wx2.heap.size 0 (List.replicate n (.int .u64 0)) 33 (made_block wx2 n _ 33) (cells .u64 Q n) (by rw [cells_length]; simp) (copy_from (HI.out.2.2.below (hB1.trans (hB2.mono hB1.size))) ((Below.refl wx2.heap.size wx2).alloc (Nat.le_refl _) _)) (by rw [cells_length]; simp) (cells_one _ _ _) wx2.heap.size wx2 ((Below.refl wx2.heap.size wx2).alloc (Nat.le_refl _) _) (Nat.le_refl _) ?_; intro w2 hg2 hb2)
          go_meet
          case rel => exact ⟨some ⟨wx2.heap.size, 0, none⟩, n, rfl, Nat.le_refl _, copy_to hg2.out, hb2⟩
      case rest =>
        rename World => wx3
        obtain ⟨a3', c3', rfl, hc3', hI3, hB3⟩ := hcut
        have HI3 := Lib.hid hI3
        clear hI3
        have I1 := Lib.hid ((HI1.out.below hB2).below hB3)
        have I2 := Lib.hid (HI2.out.below hB3)
        have hB : Below w.heap.size w wx3 := (hB1.trans (hB2.mono hB1.size)).trans (hB3.mono (Nat.le_trans hB1.size hB2.size))
        clear hq22 hq23 HI1 HI2 hB1 hB2 hB3 HI
        go_wp2_with fail
        refine (asc6 a1' c1' n D wx3 hn I1.out).mono ?_
        rintro _ w4 ⟨b, rfl, hB4⟩
        cases b
        · go_wp2
          go_ret
          exact ⟨rfl, hB.trans (hB4.mono hB.size)⟩
        have J1 := Lib.hid (I1.out.below hB4)
        have J2 := Lib.hid (I2.out.below hB4)
        have J3 := Lib.hid (HI3.out.below hB4)
        have hB' : Below w.heap.size w w4 := hB.trans (hB4.mono hB.size)
        clear I1 I2 HI3 hB hB4
        go_wp2_with fail
        refine (newpos_any a1' a2' a3' c1' c2' c3' n D S Q w4 hn J1.out J2.out J3.out).mono ?_
        rintro _ w5 ⟨rfl, hB5, hG5⟩
        have HG5 := Lib.hid hG5
        have hB5' : Below w.heap.size w w5 := hB'.trans (hB5.mono hB'.size)
        have K1 := Lib.hid (J1.out.below hB5)
        have K2 := Lib.hid (J2.out.below hB5)
        have K3 := Lib.hid (J3.out.below hB5)
        clear J1 J2 J3 hG5 hB5 hB'
        go_wp2_with fail
        refine (string_any _ n n D S Q w5 hn HG5.out HF.out (HT.out _ hB5')).mono ?_
        rintro _ w6 ⟨rfl, hB6⟩
        have hB6' : Below w.heap.size w w6 := hB5'.trans (hB6.mono hB5'.size)
        have L1 := Lib.hid (K1.out.below hB6)
        have L2 := Lib.hid (K2.out.below hB6)
        have L3 := Lib.hid (K3.out.below hB6)
        clear K1 K2 K3 HG5 hB5' hB6
        obtain ⟨TW, hTW⟩ : ∃ T, T = (⟨(txt D S Q n).toArray⟩ : ByteArray) := ⟨_, rfl⟩
        rw [← hTW]
        have HTW := Lib.hid hTW
        clear hTW
        obtain ⟨TL, hTL⟩ : ∃ T, T = (⟨(txt D S Q k).toArray⟩ : ByteArray) := ⟨_, rfl⟩
        have HTL := Lib.hid hTL
        clear hTL
        obtain ⟨TR, hTR⟩ : ∃ T, T = (⟨(txt (fun i => D (k + i)) (fun i => S (k + i)) (fun i => Q (k + i)) (n - k)).toArray⟩ : ByteArray) := ⟨_, rfl⟩
        have HTR := Lib.hid hTR
        clear hTR
        go_upto_region 29 with fail
        have A7 := Lib.hid (newpos_any a1' a2' a3' c1' c2' c3' k D S Q w6.drew (by omega) (L1.out.cut hk).drew (L2.out.cut hk).drew (L3.out.cut hk).drew)
        have t1 := cut22 a1' n c1' k (by omega)
        have t2 := cut22 a2' n c2' k (by omega)
        have t3 := cut23 a3' n c3' k (by omega)
        go_region_held3 (fun w' => Below w6.heap.size w6 w')
          (first | exact (Below.refl _ _).drew | exact undrew hB7 | exact (undrew hB7).trans (hB8.mono (undrew hB7).size))
          (first | (go_at_call 7; refine A7.out.mono ?_; rintro _ w7 ⟨rfl, hB7, hG7⟩) | (go_at_call 8; refine (string_any _ k k D S Q w7 (by omega) hG7 (HF.out.cut hk) (HT.out _ (hB6'.trans ((undrew hB7).mono hB6'.size)))).mono ?_; rintro _ w8 ⟨rfl, hB8⟩))
        rw [← HTL.out]
        have hB8'' := (undrew hB7).trans (hB8.mono (undrew hB7).size)
        have hB8' : Below w.heap.size w w8 := hB6'.trans (hB8''.mono hB6'.size)
        have M1 := Lib.hid (L1.out.below hB8'')
        have M2 := Lib.hid (L2.out.below hB8'')
        have M3 := Lib.hid (L3.out.below hB8'')
        clear L1 L2 L3 hB6' hB8'' A7 t1 t2 t3 hG7
        have A9 := Lib.hid (newpos_any (aft a1' k c1') (aft a2' k c2') (aft a3' k c3') (c1' - k) (c2' - k) (c3' - k) (n - k) _ _ _ w8.drew (by omega) (M1.out.aft hc1').drew (M2.out.aft hc2').drew (M3.out.aft hc3').drew)
        have t1 := aft22 a1' n c1' k hk
        have t2 := aft22 a2' n c2' k hk
        have t3 := aft23 a3' n c3' k hk
        go_upto_region 30 with fail
        go_region_held3 (fun w' => Below w8.heap.size w8 w')
          (first | exact (Below.refl _ _).drew | exact undrew hB9 | exact (undrew hB9).trans (hB10.mono (undrew hB9).size))
          (first | (go_at_call 7; refine A9.out.mono ?_; rintro _ w9 ⟨rfl, hB9, hG9⟩) | (go_at_call 8; refine (string_any _ (n - k) (n - k) _ _ _ w9 (by omega) hG9 HF.out.aft (HT.out _ (hB8'.trans ((undrew hB9).mono hB8'.size)))).mono ?_; rintro _ w10 ⟨rfl, hB10⟩))
        rw [← HTR.out]
        have hBz : Below w.heap.size w w10 := hB8'.trans (((undrew hB9).trans (hB10.mono (undrew hB9).size)).mono hB8'.size)
        clear M1 M2 M3 hB8' A9 t1 t2 t3 hG9
        have HWF := Lib.hid (whole_of HF.out HTW.out)
        have HLF := Lib.hid (whole_of (HF.out.cut hk) HTL.out)
        have HRF := Lib.hid (whole_of (HF.out.aft (k := k)) HTR.out)
        clear HF HT hB7 hB8 hB9 hB10
        by_cases hk0 : (k : Int) = 0
        · obtain rfl : TR = TW := right_all (by omega) HTW.out HTR.out
          by_cases hn0 : (n : Int) = 0
          · obtain rfl : TR = ⟨#[]⟩ := HWF.out.nil (by omega)
            go_wp2_with fail
            refine (cnt ⟨#[]⟩ 44 44 0 _ (by have := HWF.out.size; omega) rfl (by rw [HWF.out.comma]; omega)).mono ?_
            rintro _ _ ⟨rfl, rfl⟩
            go_wp2_with fail
            refine (cnt ⟨#[]⟩ 45 45 (2 * (n : Int)) _ (by have := HWF.out.size; omega) rfl (by rw [HWF.out.dash]; omega)).mono ?_
            rintro _ _ ⟨rfl, rfl⟩
            go_wp2
            go_ret
            exact ⟨rfl, hBz⟩
          · have hn1 : 0 < (n : Int) := by omega
            have HE := Lib.hid (nonempty (HWF.out.pos (by omega)))
            go_wp2_with fail
            refine (cnt TR 44 44 ((n : Int) - 1) _ (by have := HWF.out.size; omega) rfl (by rw [HWF.out.comma]; omega)).mono ?_
            rintro _ _ ⟨rfl, rfl⟩
            go_wp2_with fail
            refine (cnt TR 45 45 (2 * (n : Int)) _ (by have := HWF.out.size; omega) rfl (by rw [HWF.out.dash]; omega)).mono ?_
            rintro _ _ ⟨rfl, rfl⟩
            go_wp2
            go_ret
            exact ⟨ret_bool (by rw [HE.out, beq_eq_false_iff_ne.2 (show (n : Int) ≠ 0 by omega)]; rfl), hBz⟩
        · have hk1 : 0 < (k : Int) := by omega
          have hn1 : 0 < (n : Int) := by omega
          by_cases hkn : (k : Int) = (n : Int)
          · obtain rfl : TL = TW := by
              rw [HTL.out, HTW.out, show k = n by omega]
            clear HTR
            have HE := Lib.hid (nonempty (HWF.out.pos (by omega)))
            go_wp2_with fail
            refine (cnt TL 44 44 ((n : Int) - 1) _ (by have := HWF.out.size; omega) rfl (by rw [HWF.out.comma]; omega)).mono ?_
            rintro _ _ ⟨rfl, rfl⟩
            go_wp2_with fail
            refine (cnt TL 45 45 (2 * (n : Int)) _ (by have := HWF.out.size; omega) rfl (by rw [HWF.out.dash]; omega)).mono ?_
            rintro _ _ ⟨rfl, rfl⟩
            go_wp2
            go_ret
            exact ⟨ret_bool (by rw [HE.out]; rfl), hBz⟩
          · have hlt : (k : Int) < (n : Int) := by omega
            have hz1 : ¬ 9223372036854775807 < TL.size + 1 := by have := HLF.out.size; omega
            have hz2 : ¬ 9223372036854775807 < TL.size + 1 + TR.size := by have := HLF.out.size; have := HRF.out.size; omega
            have HE := Lib.hid (show (TL ++ ⟨#[44]⟩ ++ TR).toList.isEmpty = false by rw [← mid_all (by omega) (by omega) HTW.out HTL.out HTR.out]; exact nonempty (HWF.out.pos (by omega)))
            have hEq : TW.toList = (TL ++ ⟨#[44]⟩ ++ TR).toList := by rw [← mid_all (by omega) (by omega) HTW.out HTL.out HTR.out]
            go_wp2_with fail
            refine (cnt TW 44 44 ((n : Int) - 1) _ (by have := HWF.out.size; omega) rfl (by rw [HWF.out.comma]; omega)).mono ?_
            rintro _ _ ⟨rfl, rfl⟩
            go_wp2_with fail
            refine (cnt TW 45 45 (2 * (n : Int)) _ (by have := HWF.out.size; omega) rfl (by rw [HWF.out.dash]; omega)).mono ?_
            rintro _ _ ⟨rfl, rfl⟩
            go_wp2
            go_ret
            exact ⟨ret_bool (by rw [HE.out, beq_eq_false_iff_ne.2 (show (n : Int) ≠ 0 by omega)]; rfl), hBz⟩
end Go.Proofs.Qxb6630177aDoor
