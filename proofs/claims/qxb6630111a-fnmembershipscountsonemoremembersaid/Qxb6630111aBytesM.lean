import Derived.Test.Qxb6630111aData
namespace Go.Proofs.Qxb6630111a
open Go.RowKit

set_option maxRecDepth 1000000 in
set_option maxHeartbeats 8000000 in
theorem bytes10 (ao go : Option Addr) (n cap m gcap : Nat) (EA : Nat → Option Addr) (EN EC : Nat → Nat) (MA : Nat → Option Addr) (MN MC : Nat → Nat) (q p : Int) (id role : ByteArray) (w : World)
    (hP : People w ao n EA EN EC) (hG : Groups w 0 go m MA MN MC) :
    Calls Try.prog 10 #[.slice ao n cap, .slice go m gcap, .int .i64 q, .int .i64 p, .string id, .string role] w fun r w' => Said w (n + sum EN n ≤ 1048576 ∧ m + sum MN m ≤ 1048576) r w' := by
  by_cases hn : (1048576 : Int) < (n : Int)
  · go_enter Try.func10, Try.ntmps10
    go_wp2
    go_ret
    exact ⟨false, rfl, rfl, fun h => by cases h⟩
  have HG := hid hG
  have HP := hid hP
  clear hG hP
  go_enter Try.func10, Try.ntmps10
  go_wp2
  go_loopg [13, 14] n (fun g z i wr => ∃ (k : Nat) (zz : Int), k + g = n ∧ z = .int .i64 zz ∧ i = .int .i64 k ∧ ((n + sum EN k : Nat) : Int) ≤ zz ∧ zz ≤ 1048576 ∧ w = wr)
  case atStart => exact ⟨0, n, Nat.zero_add _, by simp, rfl, by simp [sum_zero], by omega, rfl⟩
  case round =>
    obtain ⟨k, zz, hk0, rfl, rfl, hz1, hz2, rfl⟩ := hrel
    have hk : k ≤ n := by omega
    have HK := hid hk0
    clear hk0
    by_cases hlt : k < n
    · rcases HP.out with h | ⟨b, off, rfl, hb, hc⟩
      · omega
      obtain ⟨⟨s, t, c0, c1⟩, c2, hE⟩ := hc k hlt
      clear hc
      obtain ⟨e, he⟩ : ∃ m, EN k = m := ⟨_, rfl⟩
      have HS := hid (show sum EN (k + 1) = sum EN k + e by rw [sum_succ, he])
      rw [he] at c2 hE
      clear he
      have HE := hid hE
      clear hE
      go_wp2
      all_goals first | (go_ret; exact ⟨false, rfl, rfl, fun h => by cases h⟩) | skip
      go_loopg [13, 15] e (fun g z i wr => ∃ (j : Nat) (z2 : Int), j + g = e ∧ z = .int .i64 z2 ∧ i = .int .i64 j ∧ ((n + sum EN k + e : Nat) : Int) ≤ z2 ∧ z2 ≤ 1048576 ∧ w = wr)
      case atStart => exact ⟨0, _, Nat.zero_add _, rfl, rfl, by omega, by omega, rfl⟩
      case round =>
        obtain ⟨j, z2, hj0, rfl, rfl, hy1, hy2, rfl⟩ := hrel
        have hj : j ≤ e := by omega
        have HJ := hid hj0
        clear hj0
        by_cases hje : j < e
        · rcases HE.out with h | ⟨pb, po, hab, _, hplt, hpc⟩
          · omega
          rw [hab] at c2
          obtain ⟨s2, t2, x0, x1⟩ := hpc j hje
          clear hpc hab
          go_wp2
          all_goals first | (go_ret; exact ⟨false, rfl, rfl, fun h => by cases h⟩) | skip
          have hj1 := HJ.out
          go_roundg (gk - 1)
          case measure => omega
          case rel => exact ⟨j + 1, _, by omega, rfl, by go_num, by omega, by omega, rfl⟩
        · go_wp2
          have hk1 := HK.out
          have hs := HS.out
          go_roundg (n - k - 1)
          case measure => omega
          case rel => exact ⟨k + 1, z2, by omega, rfl, by go_num, by rw [hs]; omega, by omega, rfl⟩
    · obtain rfl : k = n := by omega
      clear HP
      by_cases hm : (1048576 : Int) < (m : Int)
      · go_wp2
        go_ret
        exact ⟨false, rfl, rfl, fun h => by cases h⟩
      go_wp2
      all_goals first | (go_ret; exact ⟨false, rfl, rfl, fun h => by cases h⟩) | skip
      go_loopg [13, 16] m (fun g z i wr => ∃ (q : Nat) (zz : Int), q + g = m ∧ z = .int .i64 zz ∧ i = .int .i64 q ∧ ((k + sum EN k + m + sum MN q : Nat) : Int) ≤ zz ∧ zz ≤ 1048576 ∧ w = wr)
      case atStart => exact ⟨0, _, Nat.zero_add _, rfl, rfl, by rw [sum_zero]; omega, by omega, rfl⟩
      case round =>
        obtain ⟨q, zq, hq0, rfl, rfl, hx1, hx2, rfl⟩ := hrel
        have hq : q ≤ m := by omega
        have HQ := hid hq0
        clear hq0
        by_cases hlt : q < m
        · rcases HG.out with h | ⟨b, off, rfl, hb, hc⟩
          · omega
          obtain ⟨⟨s, t, u, c0, c1, c2⟩, c3, hE⟩ := hc q hlt
          clear hc
          obtain ⟨e, he⟩ : ∃ m, MN q = m := ⟨_, rfl⟩
          have HS := hid (show sum MN (q + 1) = sum MN q + e by rw [sum_succ, he])
          rw [he] at c3 hE
          clear he
          have HE := hid hE
          clear hE
          go_wp2
          all_goals first | (go_ret; exact ⟨false, rfl, rfl, fun h => by cases h⟩) | skip
          go_loopg [13, 17] e (fun g z i wr => ∃ (j : Nat) (z2 : Int), j + g = e ∧ z = .int .i64 z2 ∧ i = .int .i64 j ∧ ((k + sum EN k + m + sum MN q + e : Nat) : Int) ≤ z2 ∧ z2 ≤ 1048576 ∧ w = wr)
          case atStart => exact ⟨0, _, Nat.zero_add _, rfl, rfl, by omega, by omega, rfl⟩
          case round =>
            obtain ⟨j, z2, hj0, rfl, rfl, hy1, hy2, rfl⟩ := hrel
            have hj : j ≤ e := by omega
            have HJ := hid hj0
            clear hj0
            by_cases hje : j < e
            · rcases HE.out with h | ⟨pb, po, hab, _, hplt, hpc⟩
              · omega
              rw [hab] at c3
              obtain ⟨s2, t2, x0, x1⟩ := hpc j hje
              clear hpc hab
              go_wp2
              all_goals first | (go_ret; exact ⟨false, rfl, rfl, fun h => by cases h⟩) | skip
              have hj1 := HJ.out
              go_roundg (gk - 1)
              case measure => omega
              case rel => exact ⟨j + 1, _, by omega, rfl, by go_num, by omega, by omega, rfl⟩
            · go_wp2
              have hk1 := HQ.out
              have hs := HS.out
              go_roundg (m - q - 1)
              case measure => omega
              case rel => exact ⟨q + 1, z2, by omega, rfl, by go_num, by rw [hs]; omega, by omega, rfl⟩
        · obtain rfl : q = m := by omega
          clear HG
          go_wp2
          all_goals first | (go_ret; exact ⟨false, rfl, rfl, fun h => by cases h⟩) | (go_ret; exact ⟨true, rfl, rfl, fun _ => ⟨by omega, by omega⟩⟩)
end Go.Proofs.Qxb6630111a
