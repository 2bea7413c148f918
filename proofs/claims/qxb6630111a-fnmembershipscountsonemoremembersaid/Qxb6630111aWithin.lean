import Derived.Test.Qxb6630111aData
import Derived.RegionTactic
import Derived.BigRegion
namespace Go.Proofs.Qxb6630111a
open Go.RowKit

/-- it returns a bool; nothing old has turned -/
def Calm (w : World) (r : Ending) (w' : World) : Prop := ∃ b, r = .returned (.bool b) ∧ Below w.heap.size w w'

set_option maxRecDepth 1000000 in
set_option maxHeartbeats 8000000 in
theorem within (ao go : Option Addr) (n cap m gcap : Nat) (EA : Nat → Option Addr) (EN EC : Nat → Nat) (MA : Nat → Option Addr) (MN MC : Nat → Nat) (x : Int) (w : World) (hn : (n : Int) ≤ 2000000) (hm : (m : Int) ≤ 2000000)
    (hEN : ∀ i, i < n → ((EN i : Nat) : Int) ≤ 2000000) (hMN : ∀ i, i < m → ((MN i : Nat) : Int) ≤ 2000000)
    (hP : People w ao n EA EN EC) (hG : Groups w 0 go m MA MN MC) :
    Calls Try.prog 6 #[.slice ao n cap, .slice go m gcap, .int .i64 x] w fun r w' => Calm w r w' := by
  by_cases hx : (1048576 : Int) < x
  · go_enter Try.func6, Try.ntmps6
    go_wp2
    go_ret
    exact ⟨false, rfl, Below.refl _ _⟩
  have HG := hid hG
  have HP := hid hP
  have HEN := hid hEN
  have HMN := hid hMN
  clear hG hP hEN hMN
  go_enter Try.func6, Try.ntmps6
  go_wp2
  go_loopg [7, 8] n (fun g z i wr => ∃ (k : Nat) (zz : Int), k + g = n ∧ z = .int .i64 zz ∧ i = .int .i64 k ∧ Below w.heap.size w wr)
  case atStart => exact ⟨0, x, Nat.zero_add _, rfl, rfl, Below.refl _ _⟩
  case round =>
    obtain ⟨k, zz, hk0, rfl, rfl, hbel⟩ := hrel
    have hk : k ≤ n := by omega
    have HK := hid hk0
    clear hk0
    have hsz := hbel.size
    by_cases hlt : k < n
    · rcases HP.out with h | ⟨b, off, rfl, hb, hc⟩
      · omega
      obtain ⟨⟨s, t, c0, c1⟩, c2, hE⟩ := hc k hlt
      have hek := HEN.out k hlt
      have d0 := (hbel.cell (p := ⟨b, off + k * 3, none⟩) hb).trans c0
      have d1 := (hbel.cell (p := ⟨b, off + k * 3 + 1, none⟩) hb).trans c1
      have d2 := (hbel.cell (p := ⟨b, off + k * 3 + 2, none⟩) hb).trans c2
      have HE := hid hE
      clear hc c0 c1 c2 hE
      obtain ⟨e, he⟩ : ∃ m, EN k = m := ⟨_, rfl⟩
      obtain ⟨ea, hea⟩ : ∃ a, EA k = a := ⟨_, rfl⟩
      rw [he] at d2 HE hek
      rw [hea] at d2 HE
      clear he hea
      go_wp2
      go_region
      go_wp2
      all_goals first | (go_ret; exact ⟨false, rfl, hbel.drew⟩) | skip
      rename World => w0
      go_loopg [7, 10] e (fun g z i wr => ∃ (j : Nat) (z2 : Int), j + g = e ∧ z = .int .i64 z2 ∧ i = .int .i64 j ∧ Below w.heap.size w wr)
      case atStart => exact ⟨0, _, Nat.zero_add _, rfl, rfl, hbel.drew⟩
      case round =>
        clear hbel d0 d1 d2
        obtain ⟨j, z2, hj0, rfl, rfl, hbel⟩ := hrel
        have hj : j ≤ e := by omega
        have HJ := hid hj0
        clear hj0
        by_cases hje : j < e
        · rcases HE.out with h | ⟨pb, po, hab, _, hplt, hpc⟩
          · omega
          subst hab
          obtain ⟨s2, t2, x0, x1⟩ := hpc j hje
          have y0 := (hbel.cell (p := ⟨pb, po + j * 2, none⟩) hplt).trans x0
          have y1 := (hbel.cell (p := ⟨pb, po + j * 2 + 1, none⟩) hplt).trans x1
          clear hpc x0 x1
          go_wp2
          go_region
          go_wp2
          all_goals first | (go_ret; exact ⟨false, rfl, hbel.drew⟩) | skip
          have hj1 := HJ.out
          go_roundg (gk - 1)
          case measure => omega
          case rel => exact ⟨j + 1, _, by omega, rfl, by go_num, hbel.drew⟩
        · go_wp2
          have hk1 := HK.out
          go_roundg (n - k - 1)
          case measure => omega
          case rel => exact ⟨k + 1, z2, by omega, rfl, by go_num, hbel⟩
    · obtain rfl : k = n := by omega
      clear HP
      go_wp2
      rename World => w0
      go_loopg [7, 11] m (fun g z i wr => ∃ (q : Nat) (zz : Int), q + g = m ∧ z = .int .i64 zz ∧ i = .int .i64 q ∧ Below w.heap.size w wr)
      case atStart => exact ⟨0, _, Nat.zero_add _, rfl, rfl, hbel⟩
      case round =>
        clear hbel hsz
        obtain ⟨q, zq, hq0, rfl, rfl, hbel⟩ := hrel
        have hq : q ≤ m := by omega
        have HQ := hid hq0
        clear hq0
        by_cases hlt : q < m
        · rcases HG.out with h | ⟨b, off, rfl, hb, hc⟩
          · omega
          obtain ⟨⟨s, t, u, c0, c1, c2⟩, c3, hE⟩ := hc q hlt
          have hek := HMN.out q hlt
          have d0 := (hbel.cell (p := ⟨b, off + q * 4, none⟩) hb).trans c0
          have d1 := (hbel.cell (p := ⟨b, off + q * 4 + 1, none⟩) hb).trans c1
          have d2 := (hbel.cell (p := ⟨b, off + q * 4 + 2, none⟩) hb).trans c2
          have d3 := (hbel.cell (p := ⟨b, off + q * 4 + 3, none⟩) hb).trans c3
          have HE := hid hE
          clear hc c0 c1 c2 c3 hE
          obtain ⟨e, he⟩ : ∃ m, MN q = m := ⟨_, rfl⟩
          obtain ⟨ea, hea⟩ : ∃ a, MA q = a := ⟨_, rfl⟩
          rw [he] at d3 HE hek
          rw [hea] at d3 HE
          clear he hea
          go_wp2
          go_region
          go_wp2
          all_goals first | (go_ret; exact ⟨false, rfl, hbel.drew⟩) | skip
          rename World => w2
          go_loopg [7, 13] e (fun g z i wr => ∃ (j : Nat) (z2 : Int), j + g = e ∧ z = .int .i64 z2 ∧ i = .int .i64 j ∧ Below w.heap.size w wr)
          case atStart => exact ⟨0, _, Nat.zero_add _, rfl, rfl, hbel.drew⟩
          case round =>
            clear hbel d0 d1 d2 d3
            obtain ⟨j, z2, hj0, rfl, rfl, hbel⟩ := hrel
            have hj : j ≤ e := by omega
            have HJ := hid hj0
            clear hj0
            by_cases hje : j < e
            · rcases HE.out with h | ⟨pb, po, hab, _, hplt, hpc⟩
              · omega
              subst hab
              obtain ⟨s2, t2, x0, x1⟩ := hpc j hje
              have y0 := (hbel.cell (p := ⟨pb, po + j * 2, none⟩) hplt).trans x0
              have y1 := (hbel.cell (p := ⟨pb, po + j * 2 + 1, none⟩) hplt).trans x1
              clear hpc x0 x1
              go_wp2
              go_region
              go_wp2
              all_goals first | (go_ret; exact ⟨false, rfl, hbel.drew⟩) | skip
              have hj1 := HJ.out
              go_roundg (gk - 1)
              case measure => omega
              case rel => exact ⟨j + 1, _, by omega, rfl, by go_num, hbel.drew⟩
            · go_wp2
              have hk1 := HQ.out
              go_roundg (m - q - 1)
              case measure => omega
              case rel => exact ⟨q + 1, z2, by omega, rfl, by go_num, hbel⟩
        · obtain rfl : q = m := by omega
          clear HG
          go_wp2
          go_ret
          exact ⟨true, rfl, hbel⟩
end Go.Proofs.Qxb6630111a
