import Derived.Test.Qxb6630072aRows
import Derived.Test.Qxb6630072aPlain
import Derived.WalkKit
import Derived.ProofKit
import Derived.WalkSpells
import Derived.Deep.LoopGhost
namespace Go.Proofs.Qxb6630072a
open Go.RowKit

theorem ret_bool {a b : Bool} (h : a = b) : Ending.returned (.bool a) = .returned (.bool b) := by rw [h]
theorem hit_next {d : Int} {F T : Nat → Int} {k : Nat} (h : hit d F T k = false) (hb : ¬ (F k ≤ d ∧ d ≤ T k)) : hit d F T (k + 1) = false := by
  rw [hit_succ, h, decide_eq_false hb]; rfl

/-- zzBytes_FnOpenOnJoinAtAnyCut at a short list: true -/
theorem bytes5 (e y mn mx d k : Int) (ao : Option Addr) (n cap : Nat) (w : World) (hn : (n : Int) ≤ 65536) :
    Calls Try.prog 5 #[.int .i64 e, .int .i64 y, .int .i64 mn, .int .i64 mx, .slice ao n cap, .int .i64 d, .int .i64 k] w fun r w' => r = .returned (.bool true) ∧ w = w' := by
  go_enter Try.func5, Try.ntmps5
  go_wp2
  go_ret
  exact ⟨rfl, rfl⟩

theorem openOn_no (e y mn mx d : Int) (v : Value) (w : World) (hy : ¬ 0 < y) :
    Calls Try.prog 7 #[.agg #[.int .i64 e, .int .i64 y, .int .i64 mn, .int .i64 mx], v, .int .i64 d] w fun r w' => r = .returned (.bool true) ∧ Below w.heap.size w w' := by
  go_enter Try.func7, Try.ntmps7
  go_wp2
  go_ret
  exact ⟨rfl, (((Below.refl _ _).alloc (Nat.le_refl _) _).alloc (by simp) _)⟩

set_option maxHeartbeats 400000 in
theorem openOn_empty (e y mn mx d : Int) (ao : Option Addr) (cap : Nat) (w : World) (hy : 0 < y) :
    Calls Try.prog 7 #[.agg #[.int .i64 e, .int .i64 y, .int .i64 mn, .int .i64 mx], .slice ao 0 cap, .int .i64 d] w fun r w' => r = .returned (.bool false) ∧ Below w.heap.size w w' := by
  go_enter Try.func7, Try.ntmps7
  go_wp2
  refine wp_loop_rounds 1 ?_; rw [rounds_succ]; go_wp2
  go_ret
  exact ⟨rfl, (((Below.refl _ _).alloc (Nat.le_refl _) _).alloc (by simp) _)⟩

set_option maxHeartbeats 400000 in
theorem openOn_some (e y mn mx d : Int) (b off n cap : Nat) (F T : Nat → Int) (w : World) (hy : 0 < y) (hn : (n : Int) ≤ 65537) (hb : b < w.heap.size)
    (hc : ∀ i, i < n → w.cell? ⟨b, off + i * 2, none⟩ = some (.int .i64 (F i)) ∧ w.cell? ⟨b, off + i * 2 + 1, none⟩ = some (.int .i64 (T i))) :
    Calls Try.prog 7 #[.agg #[.int .i64 e, .int .i64 y, .int .i64 mn, .int .i64 mx], .slice (some ⟨b, off, none⟩) n cap, .int .i64 d] w fun r w' => r = .returned (.bool (hit d F T n)) ∧ Below w.heap.size w w' := by
  go_enter Try.func7, Try.ntmps7
  go_wp2
  go_loopg [14] n (fun g i wr => ∃ k : Nat, k + g = n ∧ i = .int .i64 k ∧ hit d F T k = false ∧ Below w.heap.size w wr)
  case atStart => exact ⟨0, Nat.zero_add _, rfl, hit_zero _ _ _, (((Below.refl _ _).alloc (Nat.le_refl _) _).alloc (by simp) _)⟩
  case round =>
    obtain ⟨k, hk0, rfl, hno, hbel⟩ := hrel
    have hk : k ≤ n := by omega
    have HN : Hid (hit d F T k = false) := hno
    have HK : Hid (k + gk = n) := hk0
    clear hno hk0
    have hsz := hbel.size
    by_cases hlt : k < n
    · have c0 : wr.cell? ⟨b, off + k * 2, none⟩ = some (.int .i64 (F k)) := (hbel.cell (p := ⟨b, off + k * 2, none⟩) hb).trans (hc k hlt).1
      have c1 : wr.cell? ⟨b, off + k * 2 + 1, none⟩ = some (.int .i64 (T k)) := (hbel.cell (p := ⟨b, off + k * 2 + 1, none⟩) hb).trans (hc k hlt).2
      clear hc
      go_wp2
      · go_ret
        exact ⟨ret_bool (hit_true hlt ‹_› ‹_›).symm, (hbel.alloc hsz _)⟩
      · have hbad : ¬ (F k ≤ d ∧ d ≤ T k) := by omega
        have := HK.out
        go_roundg (gk - 1)
        case measure => omega
        case rel => exact ⟨k + 1, by omega, by go_num, hit_next HN.out hbad, hbel.alloc hsz _⟩
      · have hbad : ¬ (F k ≤ d ∧ d ≤ T k) := by omega
        have := HK.out
        go_roundg (gk - 1)
        case measure => omega
        case rel => exact ⟨k + 1, by omega, by go_num, hit_next HN.out hbad, hbel.alloc hsz _⟩
    · clear hc
      obtain rfl : k = n := by omega
      go_wp2
      go_ret
      exact ⟨ret_bool HN.out.symm, hbel⟩
end Go.Proofs.Qxb6630072a
