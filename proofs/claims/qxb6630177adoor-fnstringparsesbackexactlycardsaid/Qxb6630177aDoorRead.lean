/-
  Seat b6630177aD: zzExpectByte and zzReadDec at a text that fits.
-/
import Derived.Test.Qxb6630177aDoorPos
import Derived.Test.Qxb6630177aDoorDigits
namespace Go.Proofs.Qxb6630177aDoor
open Go.RowKit Go.Lib

theorem expect9 (s : ByteArray) (p : Nat) (c : UInt8) (cv : Int) (w : World) (hs : (s.size : Int) ≤ 4200000) (hp : p < s.size) (hb : s[p] = c) (hc : cv = (c.toNat : Int)) :
    Calls Tryd.prog 9 #[.string s, .int .i64 p, .int .u8 cv] w fun e w' => e = .returned (.tuple #[.int .i64 ((p : Int) + 1), .bool true]) ∧ w = w' := by
  have hq : ((s[p].toNat : Int) == cv) = true := by rw [hb, hc]; simp
  clear hb hc
  go_enter Tryd.func9, Tryd.ntmps9
  go_wp2
  go_ret2
  exact ⟨rfl, rfl⟩

set_option maxHeartbeats 400000 in
theorem read10 (s : ByteArray) (p u : Nat) (w : World) (hs : (s.size : Int) ≤ 4200000) (hu : u < 18446744073709551616) (hsp : Spot s p (decDigits u)) (hend : Ends s (p + (decDigits u).length)) :
    Calls Tryd.prog 10 #[.string s, .int .i64 p] w fun e w' => e = .returned (.tuple #[.int .u64 u, .int .i64 ((p + (decDigits u).length : Nat) : Int), .bool true]) ∧ w = w' := by
  obtain ⟨l, hl⟩ : ∃ l, l = decDigits u := ⟨_, rfl⟩
  rw [← hl] at hsp hend ⊢
  have hval : val l = u := by rw [hl, val_dec]
  have hlen : 0 < l.length := by rw [hl]; exact dec_pos u
  have hlen20 : l.length ≤ 20 := by rw [hl]; exact dec_len u hu
  have hdig : ∀ b ∈ l, 48 ≤ b.toNat ∧ b.toNat ≤ 57 := by rw [hl]; exact dec_bytes u
  have hzero : l[0]? = some 48 → l.length = 1 := by rw [hl]; exact dec_zero_head
  obtain ⟨hp0, _⟩ := hsp 0 hlen
  have HL := Lib.hid hl
  have HA := Lib.hid (And.intro hsp (And.intro hend (And.intro hdig hzero)))
  have HV := Lib.hid (And.intro hval hu)
  clear hl hsp hend hdig hzero hval hu
  go_enter Tryd.func10, Tryd.ntmps10
  go_wp2
  go_loopg [1, 8] l.length (fun g x v wr => ∃ j : Nat, j + g = l.length ∧ x = .int .i64 ((p + j : Nat) : Int) ∧ v = .int .u64 (val (l.take j) : Nat) ∧ w = wr)
  case atStart => exact ⟨0, Nat.zero_add _, rfl, rfl, rfl⟩
  case round =>
    obtain ⟨j, hj0, rfl, rfl, rfl⟩ := hrel
    have hj : j ≤ l.length := by omega
    have HJ := Lib.hid hj0
    clear hj0
    by_cases hlt : j < l.length
    · obtain ⟨hks, hb⟩ := HA.out.1 j hlt
      have hd := HA.out.2.2.1 l[j] (List.getElem_mem hlt)
      rw [← hb] at hd
      have hstep := val_step l j hlt
      rw [← hb] at hstep
      have hle : val (l.take (j + 1)) ≤ u := by have := val_take_le l (j + 1); have := HV.out.1; omega
      have hu := HV.out.2
      clear hb
      generalize hkk : p + j = k at *
      have HK := Lib.hid hkk
      clear hkk
      obtain ⟨V, hV⟩ : ∃ V, V = val (l.take j) := ⟨_, rfl⟩
      rw [← hV] at hstep ⊢
      obtain ⟨V', hV'⟩ : ∃ V, V = val (l.take (j + 1)) := ⟨_, rfl⟩
      rw [← hV'] at hstep hle
      have HVV := Lib.hid hV'
      clear hV hV'
      have b1 : (48 : Int) ≤ (s[k].toNat : Int) := by omega
      have b2 : (s[k].toNat : Int) ≤ 57 := by omega
      have b3 : (V : Int) ≤ 1844674407370955161 := by omega
      have b4 : (V : Int) * 10 + ((s[k].toNat : Int) - 48) ≤ 18446744073709551615 := by omega
      have b5 : (V : Int) ≤ (18446744073709551615 - ((s[k].toNat : Int) - 48)) / 10 := by omega
      have HST := Lib.hid (And.intro hstep (And.intro hle hu))
      clear hstep hle hu hd
      go_wp2
      have hj1 := HJ.out
      go_roundg (gk - 1)
      case measure => omega
      case rel => exact ⟨j + 1, by omega, by rw [← Nat.add_assoc, HK.out]; go_num, by rw [← HVV.out, HST.out.1]; congr 1; omega, rfl⟩
    · obtain rfl : j = l.length := by omega
      have hfin : val (l.take l.length) = u := by rw [List.take_length]; exact HV.out.1
      rw [hfin]
      clear hfin
      have hu := HV.out.2
      have HZ : Hid (l.length = 1 ∨ ((s[p].toNat : Int) == 48) = false) := by
        by_cases h1 : l.length = 1
        · exact .inl h1
        · refine .inr ?_
          obtain ⟨hp', hb⟩ := HA.out.1 0 hlen
          rw [beq_eq_false_iff_ne]
          intro e
          have e' : s[p] = 48 := UInt8.toNat_inj.1 (by have h3 : (48 : UInt8).toNat = 48 := rfl; omega)
          refine h1 (HA.out.2.2.2 ?_)
          rw [List.getElem?_eq_getElem hlen, ← hb]
          simp only [Nat.add_zero]
          rw [e']
      have HE := Lib.hid HA.out.2.1
      clear HA HV HL HJ hlt hj
      generalize hkk : p + l.length = k at *
      have hkp : ¬ (k : Int) = (p : Int) := by omega
      have hkp' : ((k : Int) == (p : Int)) = false := by rw [beq_eq_false_iff_ne]; exact hkp
      have HKK := Lib.hid hkk
      rcases HZ.out with h1 | h1
      · have hk1 : ¬ (1 : Int) < (k : Int) - (p : Int) := by omega
        clear hkk
        by_cases hks : k < s.size
        · have hn := HE.out hks
          by_cases h48 : (s[k].toNat : Int) < 48
          · clear hn
            go_wp2
            all_goals (go_ret3; exact ⟨by rw [HKK.out]; rfl, rfl⟩)
          · have h57 : (57 : Int) < (s[k].toNat : Int) := by omega
            clear hn
            go_wp2
            all_goals (go_ret3; exact ⟨by rw [HKK.out]; rfl, rfl⟩)
        · go_wp2
          all_goals (go_ret3; exact ⟨by rw [HKK.out]; rfl, rfl⟩)
      · have hpk : (p : Int) < (k : Int) := by omega
        have hkl : (k : Int) ≤ (p : Int) + 20 := by omega
        clear hkk
        by_cases hks : k < s.size
        · have hn := HE.out hks
          by_cases h48 : (s[k].toNat : Int) < 48
          · clear hn
            go_wp2
            all_goals (go_ret3; exact ⟨by rw [HKK.out]; rfl, rfl⟩)
          · have h57 : (57 : Int) < (s[k].toNat : Int) := by omega
            clear hn
            go_wp2
            all_goals (go_ret3; exact ⟨by rw [HKK.out]; rfl, rfl⟩)
        · go_wp2
          all_goals (go_ret3; exact ⟨by rw [HKK.out]; rfl, rfl⟩)
end Go.Proofs.Qxb6630177aDoor
