import Derived.Test.Qxb6630111aData
import Derived.Deep.Slices
import Derived.RegionTactic
import Derived.BigRegion
namespace Go.Proofs.Qxb6630111a
open Go.RowKit

theorem Try.info39 : (Try.prog.info? 39).map (fun i => (i.zero, i.size, i.bytes)) = some (some (.agg #[.string ByteArray.empty, .string ByteArray.empty]), 2, 32) := by kernel_rfl

/-- what the made row holds when k pairs are laid -/
def rowS (F T : Nat → ByteArray) (k : Nat) (j : Nat) : Value := if j < k * 2 then (if j % 2 = 0 then .string (F (j / 2)) else .string (T (j / 2))) else .string ByteArray.empty

theorem rowS_step {e : TypeId} {F T : Nat → ByteArray} {k m g : Nat} {w : World} (h : w.rowIs g e m (rowS F T k)) :
    ((w.setCell ⟨g, k * 2, none⟩ (.string (F k))).setCell ⟨g, k * 2 + 1, none⟩ (.string (T k))).drew.rowIs g e m (rowS F T (k + 1)) := by
  refine (((h.set (k * 2) (.string (F k))).set (k * 2 + 1) (.string (T k))).drew).congr fun j _ => ?_
  show (if j = k * 2 + 1 then _ else if j = k * 2 then _ else rowS F T k j) = rowS F T (k + 1) j
  by_cases h1 : j = k * 2 + 1
  · subst h1
    rw [if_pos rfl]
    unfold rowS
    rw [if_pos (by omega), if_neg (by omega), show (k * 2 + 1) / 2 = k by omega]
  · rw [if_neg h1]
    by_cases h0 : j = k * 2
    · subst h0
      rw [if_pos rfl]
      unfold rowS
      rw [if_pos (by omega), if_pos (by omega), show k * 2 / 2 = k by omega]
    · rw [if_neg h0]
      unfold rowS
      by_cases h2 : j < k * 2
      · have h3 : j < (k + 1) * 2 := by omega
        simp only [h2, h3, if_true]
      · have h3 : ¬ j < (k + 1) * 2 := by omega
        simp only [h2, h3, if_false]

theorem made_rowS (e : TypeId) (F T : Nat → ByteArray) (n : Nat) (w : World) : (w.alloc (.cells (madeCells #[.string ByteArray.empty, .string ByteArray.empty] (n * 2)) e)).rowIs w.heap.size e (n * 2) (rowS F T 0) := by
  have := World.rowIs_alloc w (madeCells #[.string ByteArray.empty, .string ByteArray.empty] (n * 2)) e (rowS F T 0) (by
    intro i hi
    rw [size_madeCells] at hi
    have h2 : i % 2 = 0 ∨ i % 2 = 1 := by omega
    rcases h2 with h | h <;> simp [madeCells, rowS, hi, h])
  rwa [size_madeCells] at this

theorem rowS_pairs {e : TypeId} {F T : Nat → ByteArray} {n g : Nat} {w : World} (h : w.rowIs g e (n * 2) (rowS F T n)) : Pairs w g (some ⟨g, 0, none⟩) n := by
  refine .inr ⟨g, 0, rfl, Nat.le_refl _, h.lt, fun j hj => ⟨F j, T j, ?_, ?_⟩⟩
  · rw [Nat.zero_add, h.cell (by omega)]
    unfold rowS
    rw [if_pos (by omega), if_pos (by omega), show j * 2 / 2 = j by omega]
  · rw [Nat.zero_add, h.cell (by omega)]
    unfold rowS
    rw [if_pos (by omega), if_neg (by omega), show (j * 2 + 1) / 2 = j by omega]

/-- the pairs by two functions -/
theorem Pairs.fns {w : World} {lo : Nat} {ao : Option Addr} {n : Nat} (h : Pairs w lo ao n) : n = 0 ∨ ∃ b off, ∃ F T : Nat → ByteArray, ao = some ⟨b, off, none⟩ ∧ lo ≤ b ∧ b < w.heap.size ∧
    ∀ j, j < n → w.cell? ⟨b, off + j * 2, none⟩ = some (.string (F j)) ∧ w.cell? ⟨b, off + j * 2 + 1, none⟩ = some (.string (T j)) := by
  rcases h with h | ⟨b, off, rfl, hlo, hlt, hc⟩
  · exact .inl h
  · obtain ⟨q, hq⟩ := Go.Deep.choose_lt (α := ByteArray × ByteArray) (p := fun j q => w.cell? ⟨b, off + j * 2, none⟩ = some (.string q.1) ∧ w.cell? ⟨b, off + j * 2 + 1, none⟩ = some (.string q.2))
      (fun j hj => by obtain ⟨s, t, h1, h2⟩ := hc j hj; exact ⟨(s, t), h1, h2⟩)
    exact .inr ⟨b, off, fun j => (q j).1, fun j => (q j).2, rfl, hlo, hlt, hq⟩

theorem run_make40 (n : Nat) (hn : (n : Int) ≤ 2000000) (w : World) :
    (Instr.makeSlice 40 (.int .i64 n) (.int .i64 n)).run Try.prog w = .ok (.slice (some ⟨w.heap.size, 0, none⟩) n n) (w.alloc (.cells (madeCells #[.string ByteArray.empty, .string ByteArray.empty] (n * 2)) 39)) := by
  obtain ⟨i0, hi, hz0, hz1, hz2⟩ := info_parts Try.info39
  have := run_make (P := Try.prog) w 40 39 i0 _ Try.underlying40 hi hz0 .i64 .i64 n n (by omega) (Int.le_refl _) (by rw [hz2]; omega) (by omega)
  simpa [hz1, Value.cells] using this

theorem members_nil (w : World) (cap : Nat) :
    Calls Try.prog 11 #[.slice none 0 cap] w fun r w' => r = .returned (.slice none 0 0) ∧ w = w' := by
  have hq := fun (w : World) (a : Option Addr) (n c n' c' : Nat) => Lib.run_eql_slice_nil (P := Try.prog) w 32 49 a n c n' c' Try.underlying32
  go_enter Try.func11, Try.ntmps11
  go_wp2
  go_ret
  exact ⟨rfl, rfl⟩

set_option maxHeartbeats 400000 in
theorem members_empty (a : Addr) (cap : Nat) (w : World) :
    Calls Try.prog 11 #[.slice (some a) 0 cap] w fun r w' => r = .returned (.slice (some ⟨w.heap.size, 0, none⟩) 0 0) ∧ Below w.heap.size w w' := by
  have hmk : ∀ w : World, (Instr.makeSlice 40 (.int .i64 0) (.int .i64 0)).run Try.prog w = .ok (.slice (some ⟨w.heap.size, 0, none⟩) 0 0) (w.alloc (.cells (madeCells #[.string ByteArray.empty, .string ByteArray.empty] (0 * 2)) 39)) := fun w => run_make40 0 (by omega) w
  have hq := fun (w : World) (a : Option Addr) (n c n' c' : Nat) => Lib.run_eql_slice_nil (P := Try.prog) w 32 49 a n c n' c' Try.underlying32
  go_enter Try.func11, Try.ntmps11
  go_wp2
  clear hq hmk
  refine wp_loop_rounds 1 ?_; rw [rounds_succ]; go_wp2
  go_ret
  exact ⟨rfl, ((Below.refl _ _).alloc (Nat.le_refl _) _)⟩

set_option maxHeartbeats 400000 in
theorem members_some (b off n cap : Nat) (F T : Nat → ByteArray) (w : World) (hn : (n : Int) ≤ 2000000) (hb : b < w.heap.size)
    (hc : ∀ i, i < n → w.cell? ⟨b, off + i * 2, none⟩ = some (.string (F i)) ∧ w.cell? ⟨b, off + i * 2 + 1, none⟩ = some (.string (T i))) :
    Calls Try.prog 11 #[.slice (some ⟨b, off, none⟩) n cap] w fun r w' => r = .returned (.slice (some ⟨w.heap.size, 0, none⟩) n n) ∧ Below w.heap.size w w' ∧
      w'.rowIs w.heap.size 39 (n * 2) (rowS F T n) := by
  have hmk := run_make40 n hn
  have hq := fun (w : World) (a : Option Addr) (n c n' c' : Nat) => Lib.run_eql_slice_nil (P := Try.prog) w 32 49 a n c n' c' Try.underlying32
  go_enter Try.func11, Try.ntmps11
  go_wp2
  clear hq hmk
  go_loopg [4] n (fun g i wr => ∃ k : Nat, k + g = n ∧ i = .int .i64 k ∧ Below w.heap.size w wr ∧ wr.rowIs w.heap.size 39 (n * 2) (rowS F T k))
  case atStart => exact ⟨0, Nat.zero_add _, rfl, ((Below.refl _ _).alloc (Nat.le_refl _) _), made_rowS _ _ _ _ _⟩
  case round =>
    obtain ⟨k, hk0, rfl, hbel, hrow⟩ := hrel
    have hk : k ≤ n := by omega
    have HK : Hid (k + gk = n) := hk0
    clear hk0
    have hsz := hbel.size
    by_cases hlt : k < n
    · have c0 : wr.cell? ⟨b, off + k * 2, none⟩ = some (.string (F k)) := (hbel.cell (p := ⟨b, off + k * 2, none⟩) hb).trans (hc k hlt).1
      have c1 : wr.cell? ⟨b, off + k * 2 + 1, none⟩ = some (.string (T k)) := (hbel.cell (p := ⟨b, off + k * 2 + 1, none⟩) hb).trans (hc k hlt).2
      have f0 : wr.frozen? ⟨w.heap.size, k * 2, none⟩ = false := hrow.frozen _
      have f1 : wr.frozen? ⟨w.heap.size, k * 2 + 1, none⟩ = false := hrow.frozen _
      have d0 : wr.cell? ⟨w.heap.size, k * 2, none⟩ = some (.string ByteArray.empty) := by rw [hrow.cell (by omega)]; unfold rowS; rw [if_neg (by omega)]
      have d1 : wr.cell? ⟨w.heap.size, k * 2 + 1, none⟩ = some (.string ByteArray.empty) := by rw [hrow.cell (by omega)]; unfold rowS; rw [if_neg (by omega)]
      have HR := hid hrow
      clear hc hrow
      go_wp2
      go_region
      all_goals
        go_wp2
        have hk1 := HK.out
        go_roundg (gk - 1)
        case measure => omega
        case rel => exact ⟨k + 1, by omega, by go_num, ((hbel.setCell (Nat.le_refl _) _).setCell (Nat.le_refl _) _).drew, rowS_step HR.out⟩
    · clear hc
      obtain rfl : k = n := by omega
      go_wp2
      go_ret
      exact ⟨rfl, hbel, hrow⟩

/-- zzMembers: as many members, in a block of their own -/
theorem members_any (ao : Option Addr) (n cap lo : Nat) (w : World) (hn : (n : Int) ≤ 2000000) (h0 : ao = none → n = 0) (hP : Pairs w lo ao n) :
    Calls Try.prog 11 #[.slice ao n cap] w fun r w' => ∃ a' c', r = .returned (.slice a' n c') ∧ Below w.heap.size w w' ∧ Pairs w' w.heap.size a' n := by
  rcases ao with _ | a
  · obtain rfl := h0 rfl
    refine (members_nil w cap).mono ?_
    rintro _ _ ⟨rfl, rfl⟩
    exact ⟨none, 0, rfl, Below.refl _ _, .inl rfl⟩
  · rcases hP.fns with rfl | ⟨b, off, F, T, hab, _, hlt, hc⟩
    · refine (members_empty a cap w).mono ?_
      rintro _ w' ⟨rfl, hb⟩
      exact ⟨_, _, rfl, hb, .inl rfl⟩
    · cases hab
      refine (members_some b off n cap F T w hn hlt hc).mono ?_
      rintro _ w' ⟨rfl, hb, hr⟩
      exact ⟨_, _, rfl, hb, rowS_pairs hr⟩
end Go.Proofs.Qxb6630111a
