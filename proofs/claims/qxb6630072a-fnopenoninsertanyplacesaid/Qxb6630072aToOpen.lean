import Derived.Test.Qxb6630072aRows
import Derived.Test.Qxb6630072aPlain
import Derived.WalkKit
import Derived.ProofKit
import Derived.WalkSpells
import Derived.Deep.OwnRows
import Derived.Deep.LoopGhost
import Derived.Lib.SliceRun
import Derived.RegionTactic
import Derived.BigRegion
namespace Go.Proofs.Qxb6630072a
open Go.RowKit

theorem toOpen_nil (w : World) :
    Calls Try.prog 6 #[.slice none 0 0] w fun r w' => r = .returned (.slice none 0 0) ∧ w = w' := by
  have hq := fun (w : World) (a : Option Addr) (n c n' c' : Nat) => Lib.run_eql_slice_nil (P := Try.prog) w 22 34 a n c n' c' Try.underlying22
  go_enter Try.func6, Try.ntmps6
  go_wp2
  go_ret
  exact ⟨rfl, rfl⟩

theorem Try.info32 : (Try.prog.info? 32).map (fun i => (i.zero, i.size, i.bytes)) = some (some (.agg #[.int .i64 0, .int .i64 0]), 2, 16) := by kernel_rfl

/-- what the made row holds when k elements are laid -/
def rowF (F T : Nat → Int) (k : Nat) (j : Nat) : Value := if j < k * 2 then (if j % 2 = 0 then .int .i64 (F (j / 2)) else .int .i64 (T (j / 2))) else .int .i64 0

theorem made_rowF (F T : Nat → Int) (n : Nat) (w : World) : (w.alloc (.cells (madeCells #[.int .i64 0, .int .i64 0] (n * 2)) 32)).rowIs w.heap.size 32 (n * 2) (rowF F T 0) := by
  have := World.rowIs_alloc w (madeCells #[.int .i64 0, .int .i64 0] (n * 2)) 32 (rowF F T 0) (by
    intro i hi
    rw [size_madeCells] at hi
    have h2 : i % 2 = 0 ∨ i % 2 = 1 := by omega
    rcases h2 with h | h <;> simp [madeCells, rowF, hi, h])
  rwa [size_madeCells] at this

theorem rowF_step {F T : Nat → Int} {k m g : Nat} {w : World} (h : w.rowIs g 32 m (rowF F T k)) :
    ((w.setCell ⟨g, k * 2, none⟩ (.int .i64 (F k))).setCell ⟨g, k * 2 + 1, none⟩ (.int .i64 (T k))).drew.rowIs g 32 m (rowF F T (k + 1)) := by
  refine (((h.set (k * 2) (.int .i64 (F k))).set (k * 2 + 1) (.int .i64 (T k))).drew).congr fun j _ => ?_
  show (if j = k * 2 + 1 then _ else if j = k * 2 then _ else rowF F T k j) = rowF F T (k + 1) j
  by_cases h1 : j = k * 2 + 1
  · subst h1
    rw [if_pos rfl]
    unfold rowF
    rw [if_pos (by omega), if_neg (by omega), show (k * 2 + 1) / 2 = k by omega]
  · rw [if_neg h1]
    by_cases h0 : j = k * 2
    · subst h0
      rw [if_pos rfl]
      unfold rowF
      rw [if_pos (by omega), if_pos (by omega), show k * 2 / 2 = k by omega]
    · rw [if_neg h0]
      unfold rowF
      by_cases h2 : j < k * 2
      · have h3 : j < (k + 1) * 2 := by omega
        simp only [h2, h3, if_true]
      · have h3 : ¬ j < (k + 1) * 2 := by omega
        simp only [h2, h3, if_false]

theorem run_make27 (n : Nat) (hn : (n : Int) ≤ 65536) (w : World) :
    (Instr.makeSlice 27 (.int .i64 n) (.int .i64 n)).run Try.prog w = .ok (.slice (some ⟨w.heap.size, 0, none⟩) n n) (w.alloc (.cells (madeCells #[.int .i64 0, .int .i64 0] (n * 2)) 32)) := by
  obtain ⟨i0, hi, hz0, hz1, hz2⟩ := info_parts Try.info32
  have := run_make (P := Try.prog) w 27 32 i0 _ Try.underlying27 hi hz0 .i64 .i64 n n (by omega) (Int.le_refl _) (by rw [hz2]; omega) (by omega)
  simpa [hz1, Value.cells] using this

set_option maxHeartbeats 400000 in
theorem toOpen_some (b off n cap : Nat) (F T : Nat → Int) (w : World) (hn : (n : Int) ≤ 65536) (hb : b < w.heap.size)
    (hc : ∀ i, i < n → w.cell? ⟨b, off + i * 2, none⟩ = some (.int .i64 (F i)) ∧ w.cell? ⟨b, off + i * 2 + 1, none⟩ = some (.int .i64 (T i))) :
    Calls Try.prog 6 #[.slice (some ⟨b, off, none⟩) n cap] w fun r w' => r = .returned (.slice (some ⟨w.heap.size, 0, none⟩) n n) ∧ Below w.heap.size w w' ∧
      w'.rowIs w.heap.size 32 (n * 2) (rowF F T n) := by
  have hmk := run_make27 n hn
  have hq := fun (w : World) (a : Option Addr) (n c n' c' : Nat) => Lib.run_eql_slice_nil (P := Try.prog) w 22 34 a n c n' c' Try.underlying22
  go_enter Try.func6, Try.ntmps6
  go_wp2
  clear hq hmk
  go_loopg [4] n (fun g i wr => ∃ k : Nat, k + g = n ∧ i = .int .i64 k ∧ Below w.heap.size w wr ∧ wr.rowIs w.heap.size 32 (n * 2) (rowF F T k))
  case atStart => exact ⟨0, Nat.zero_add _, rfl, ((Below.refl _ _).alloc (Nat.le_refl _) _), made_rowF _ _ _ _⟩
  case round =>
    obtain ⟨k, hk0, rfl, hbel, hrow⟩ := hrel
    have hk : k ≤ n := by omega
    have HK : Hid (k + gk = n) := hk0
    clear hk0
    have hsz := hbel.size
    by_cases hlt : k < n
    · have c0 : wr.cell? ⟨b, off + k * 2, none⟩ = some (.int .i64 (F k)) := (hbel.cell (p := ⟨b, off + k * 2, none⟩) hb).trans (hc k hlt).1
      have c1 : wr.cell? ⟨b, off + k * 2 + 1, none⟩ = some (.int .i64 (T k)) := (hbel.cell (p := ⟨b, off + k * 2 + 1, none⟩) hb).trans (hc k hlt).2
      have f0 : wr.frozen? ⟨w.heap.size, k * 2, none⟩ = false := hrow.frozen _
      have f1 : wr.frozen? ⟨w.heap.size, k * 2 + 1, none⟩ = false := hrow.frozen _
      have d0 : wr.cell? ⟨w.heap.size, k * 2, none⟩ = some (.int .i64 0) := by rw [hrow.cell (by omega)]; simp [rowF]
      have d1 : wr.cell? ⟨w.heap.size, k * 2 + 1, none⟩ = some (.int .i64 0) := by rw [hrow.cell (by omega)]; simp [rowF]; omega
      have HR : Hid (wr.rowIs w.heap.size 32 (n * 2) (rowF F T k)) := hrow
      clear hc hrow
      go_wp2
      go_region
      all_goals
        go_wp2
        have hk1 := HK.out
        go_roundg (gk - 1)
        case measure => omega
        case rel => exact ⟨k + 1, by omega, by go_num, ((hbel.setCell (Nat.le_refl _) _).setCell (Nat.le_refl _) _).drew, rowF_step HR.out⟩
    · clear hc
      obtain rfl : k = n := by omega
      go_wp2
      go_ret
      exact ⟨rfl, hbel, hrow⟩

set_option maxHeartbeats 400000 in
theorem toOpen_empty (a : Addr) (cap : Nat) (F T : Nat → Int) (w : World) :
    Calls Try.prog 6 #[.slice (some a) 0 cap] w fun r w' => r = .returned (.slice (some ⟨w.heap.size, 0, none⟩) 0 0) ∧ Below w.heap.size w w' ∧
      w'.rowIs w.heap.size 32 (0 * 2) (rowF F T 0) := by
  have hmk : ∀ w : World, (Instr.makeSlice 27 (.int .i64 0) (.int .i64 0)).run Try.prog w = .ok (.slice (some ⟨w.heap.size, 0, none⟩) 0 0) (w.alloc (.cells (madeCells #[.int .i64 0, .int .i64 0] (0 * 2)) 32)) := fun w => run_make27 0 (by omega) w
  have hq := fun (w : World) (a : Option Addr) (n c n' c' : Nat) => Lib.run_eql_slice_nil (P := Try.prog) w 22 34 a n c n' c' Try.underlying22
  go_enter Try.func6, Try.ntmps6
  go_wp2
  clear hq hmk
  refine wp_loop_rounds 1 ?_; rw [rounds_succ]; go_wp2
  go_ret
  exact ⟨rfl, ((Below.refl _ _).alloc (Nat.le_refl _) _), made_rowF F T 0 w⟩

/-- what is known of the periods that a slice leads to -/
def Lies (w : World) (a : Addr) (n : Nat) (F T : Nat → Int) : Prop :=
  n = 0 ∨ ∃ b off, a = ⟨b, off, none⟩ ∧ b < w.heap.size ∧ ∀ i, i < n → w.cell? ⟨b, off + i * 2, none⟩ = some (.int .i64 (F i)) ∧ w.cell? ⟨b, off + i * 2 + 1, none⟩ = some (.int .i64 (T i))

theorem toOpen_row (a : Addr) (n cap : Nat) (F T : Nat → Int) (w : World) (hn : (n : Int) ≤ 65536) (hc : Lies w a n F T) :
    Calls Try.prog 6 #[.slice (some a) n cap] w fun r w' => r = .returned (.slice (some ⟨w.heap.size, 0, none⟩) n n) ∧ Below w.heap.size w w' ∧
      w'.rowIs w.heap.size 32 (n * 2) (rowF F T n) := by
  rcases hc with rfl | ⟨b, off, rfl, hb, hc⟩
  · exact toOpen_empty a cap F T w
  · exact toOpen_some b off n cap F T w hn hb hc

theorem Lies.alloc {w : World} {a : Addr} {n : Nat} {F T : Nat → Int} (h : Lies w a n F T) (o : Obj) : Lies (w.alloc o) a n F T := by
  rcases h with h | ⟨b, off, rfl, hb, hc⟩
  · exact .inl h
  · refine .inr ⟨b, off, rfl, by simp; omega, fun i hi => ?_⟩
    rw [World.cell?_alloc_past _ _ _ (by simpa using hb), World.cell?_alloc_past _ _ _ (by simpa using hb)]
    exact hc i hi
end Go.Proofs.Qxb6630072a
