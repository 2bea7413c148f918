import Derived.Test.Qxb6630111aData
namespace Go.Proofs.Qxb6630111a
open Go.RowKit

set_option maxHeartbeats 400000 in
/-- Memberships: the sum of the groups' lengths -/
theorem memb_any (db : Nat) (ao : Option Addr) (n cap lo : Nat) (MA : Nat → Option Addr) (MN MC : Nat → Nat) (w : World) (hd : w.cell? ⟨db, 1, none⟩ = some (.slice ao n cap)) (hn : (n : Int) ≤ 2000000)
    (hs : ((sum MN n : Nat) : Int) ≤ 2000000) (hG : Groups w lo ao n MA MN MC) :
    Calls Try.prog 9 #[.pointer (some ⟨db, 0, none⟩)] w fun r w' => r = .returned (.int .i64 (sum MN n : Nat)) ∧ Below w.heap.size w w' := by
  rcases hG with rfl | ⟨b, off, rfl, hb, hc⟩
  · go_enter Try.func9, Try.ntmps9
    go_wp2
    refine wp_loop_rounds 1 ?_; rw [rounds_succ]; go_wp2
    go_ret
    exact ⟨rfl, Below.refl _ _⟩
  · go_enter Try.func9, Try.ntmps9
    go_wp2
    go_loopg [3, 11] n (fun g v i wr => ∃ k : Nat, k + g = n ∧ v = .int .i64 (sum MN k : Nat) ∧ i = .int .i64 k ∧ Below w.heap.size w wr)
    case atStart => exact ⟨0, Nat.zero_add _, rfl, rfl, Below.refl _ _⟩
    case round =>
      obtain ⟨k, hk0, rfl, rfl, hbel⟩ := hrel
      have hk : k ≤ n := by omega
      have HK := hid hk0
      clear hk0
      have hsz := hbel.size
      have hsk : ((sum MN k : Nat) : Int) ≤ 2000000 := by have := sum_mono MN hk; omega
      by_cases hlt : k < n
      · obtain ⟨⟨s, t, u, c0, c1, c2⟩, c3, _⟩ := hc k hlt
        have d0 := (hbel.cell (p := ⟨b, off + k * 4, none⟩) hb).trans c0
        have d1 := (hbel.cell (p := ⟨b, off + k * 4 + 1, none⟩) hb).trans c1
        have d2 := (hbel.cell (p := ⟨b, off + k * 4 + 2, none⟩) hb).trans c2
        have d3 := (hbel.cell (p := ⟨b, off + k * 4 + 3, none⟩) hb).trans c3
        have hN : ((MN k : Nat) : Int) ≤ 2000000 := by have := sum_at MN hlt; omega
        clear hc c0 c1 c2 c3 hd
        go_wp2
        have hk1 := HK.out
        go_roundg (gk - 1)
        case measure => omega
        case rel => exact ⟨k + 1, by omega, by rw [sum_succ]; go_num, by go_num, hbel.alloc hsz _⟩
      · clear hc
        obtain rfl : k = n := by omega
        go_wp2
        go_ret
        exact ⟨rfl, hbel⟩
end Go.Proofs.Qxb6630111a
