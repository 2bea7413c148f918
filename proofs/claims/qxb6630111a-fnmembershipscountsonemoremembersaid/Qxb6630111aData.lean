/-
  Seat b6630111a: the plain sums, and what is known of the memory that the arguments lead to.
-/
import Derived.Test.Qxb6630111aRows
import Derived.WalkKit
import Derived.ProofKit
import Derived.WalkSpells
import Derived.WalkSmall
import Derived.Deep.OwnRows
import Derived.Deep.LoopGhost
import Derived.Lib.SliceRun
namespace Go.Proofs.Qxb6630111a
open Go.RowKit

/-! ### Plain sums -/
def sum (N : Nat → Nat) : Nat → Nat
  | 0 => 0
  | k + 1 => sum N k + N k
theorem sum_zero (N : Nat → Nat) : sum N 0 = 0 := rfl
theorem sum_succ (N : Nat → Nat) (k : Nat) : sum N (k + 1) = sum N k + N k := rfl
theorem sum_mono (N : Nat → Nat) {k n : Nat} (h : k ≤ n) : sum N k ≤ sum N n := by
  induction n with
  | zero => obtain rfl : k = 0 := by omega
            exact Nat.le_refl _
  | succ n ih =>
    rcases Nat.lt_or_ge k (n + 1) with hk | hk
    · exact Nat.le_trans (ih (by omega)) (by rw [sum_succ]; omega)
    · obtain rfl : k = n + 1 := by omega
      exact Nat.le_refl _
theorem sum_at (N : Nat → Nat) {k n : Nat} (h : k < n) : N k ≤ sum N n := by
  have := sum_mono N (k := k + 1) (n := n) h
  rw [sum_succ] at this
  omega
theorem sum_split (N : Nat → Nat) (k m : Nat) : sum N (k + m) = sum N k + sum (fun i => N (k + i)) m := by
  induction m with
  | zero => rfl
  | succ m ih => rw [← Nat.add_assoc, sum_succ, ih, sum_succ]; omega
theorem sum_congr {N M : Nat → Nat} {n : Nat} (h : ∀ i, i < n → N i = M i) : sum N n = sum M n := by
  induction n with
  | zero => rfl
  | succ n ih => rw [sum_succ, sum_succ, ih (fun i hi => h i (by omega)), h n (by omega)]
theorem sum_bump (N : Nat → Nat) {k n : Nat} (h : k < n) : sum (fun i => if i = k then N k + 1 else N i) n = sum N n + 1 := by
  induction n with
  | zero => omega
  | succ n ih =>
    rw [sum_succ, sum_succ]
    rcases Nat.lt_or_ge k n with hk | hk
    · rw [ih hk, if_neg (by omega)]; omega
    · obtain rfl : k = n := by omega
      rw [if_pos rfl, sum_congr (M := N) (fun i hi => by rw [if_neg (by omega)])]
      omega

theorem hid {p : Prop} (h : p) : Hid p := h
theorem ret_bool {a b : Bool} (h : a = b) : Ending.returned (.bool a) = .returned (.bool b) := by rw [h]
theorem ret_int {k : IntKind} {a b : Int} (h : a = b) : Ending.returned (.int k a) = .returned (.int k b) := by rw [h]
theorem undrew {w w' : World} (h : Below w.drew.heap.size w.drew w') : Below w.heap.size w w' := (Below.refl _ _).drew.trans h
theorem row_below {w w1 : World} {B g m : Nat} {t : TypeId} {f : Nat → Value} (h : w.rowIs g t m f) (hb : Below B w w1) (hg : g < B) : w1.rowIs g t m f := h.of_block (hb.block g hg)

/-- it returns a bool; the world is as it was; if the bool is true, p -/
def Said (w : World) (p : Prop) (r : Ending) (w' : World) : Prop := ∃ b, r = .returned (.bool b) ∧ w = w' ∧ (b = true → p)

/-! ### Memory -/
/-- n pairs of strings lie behind the address, in a block from lo on -/
def Pairs (w : World) (lo : Nat) (ao : Option Addr) (n : Nat) : Prop :=
  n = 0 ∨ ∃ b off, ao = some ⟨b, off, none⟩ ∧ lo ≤ b ∧ b < w.heap.size ∧
    ∀ j, j < n → ∃ s t : ByteArray, w.cell? ⟨b, off + j * 2, none⟩ = some (.string s) ∧ w.cell? ⟨b, off + j * 2 + 1, none⟩ = some (.string t)

theorem Pairs.below {w w' : World} {lo : Nat} {ao : Option Addr} {n : Nat} (h : Pairs w lo ao n) (hb : Below w.heap.size w w') : Pairs w' lo ao n := by
  rcases h with h | ⟨b, off, rfl, hlo, hlt, hc⟩
  · exact .inl h
  · refine .inr ⟨b, off, rfl, hlo, Nat.lt_of_lt_of_le hlt hb.size, fun j hj => ?_⟩
    obtain ⟨s, t, h1, h2⟩ := hc j hj
    exact ⟨s, t, (hb.cell (p := ⟨b, off + j * 2, none⟩) hlt).trans h1, (hb.cell (p := ⟨b, off + j * 2 + 1, none⟩) hlt).trans h2⟩
theorem Pairs.lower {w : World} {lo lo' : Nat} {ao : Option Addr} {n : Nat} (h : Pairs w lo ao n) (hl : lo' ≤ lo) : Pairs w lo' ao n := by
  rcases h with h | ⟨b, off, rfl, hlo, r⟩
  · exact .inl h
  · exact .inr ⟨b, off, rfl, Nat.le_trans hl hlo, r⟩
/-- a store into a block below lo -/
theorem Pairs.setCell {w : World} {lo : Nat} {ao : Option Addr} {n : Nat} (h : Pairs w lo ao n) {p : Addr} (hp : p.block < lo) (v : Value) : Pairs (w.setCell p v) lo ao n := by
  rcases h with h | ⟨b, off, rfl, hlo, hlt, hc⟩
  · exact .inl h
  · refine .inr ⟨b, off, rfl, hlo, by simpa [World.setCell] using hlt, fun j hj => ?_⟩
    obtain ⟨s, t, h1, h2⟩ := hc j hj
    have e : ∀ o, (w.setCell p v).cell? ⟨b, o, none⟩ = w.cell? ⟨b, o, none⟩ := fun o => World.cell?_of_block (w := w) (Below.heap_setCell w p v b (by omega))
    exact ⟨s, t, (e _).trans h1, (e _).trans h2⟩

/-- the people: three cells each -/
def People (w : World) (ao : Option Addr) (n : Nat) (EA : Nat → Option Addr) (EN EC : Nat → Nat) : Prop :=
  n = 0 ∨ ∃ b off, ao = some ⟨b, off, none⟩ ∧ b < w.heap.size ∧
    ∀ i, i < n → (∃ s t : ByteArray, w.cell? ⟨b, off + i * 3, none⟩ = some (.string s) ∧ w.cell? ⟨b, off + i * 3 + 1, none⟩ = some (.string t)) ∧
      w.cell? ⟨b, off + i * 3 + 2, none⟩ = some (.slice (EA i) (EN i) (EC i)) ∧ Pairs w 0 (EA i) (EN i)
/-- the groups: four cells each; their members lie in blocks from lo on -/
def Groups (w : World) (lo : Nat) (ao : Option Addr) (n : Nat) (MA : Nat → Option Addr) (MN MC : Nat → Nat) : Prop :=
  n = 0 ∨ ∃ b off, ao = some ⟨b, off, none⟩ ∧ b < w.heap.size ∧
    ∀ i, i < n → (∃ s t u : ByteArray, w.cell? ⟨b, off + i * 4, none⟩ = some (.string s) ∧ w.cell? ⟨b, off + i * 4 + 1, none⟩ = some (.string t) ∧ w.cell? ⟨b, off + i * 4 + 2, none⟩ = some (.string u)) ∧
      w.cell? ⟨b, off + i * 4 + 3, none⟩ = some (.slice (MA i) (MN i) (MC i)) ∧ Pairs w lo (MA i) (MN i)

theorem People.below {w w' : World} {ao : Option Addr} {n : Nat} {EA : Nat → Option Addr} {EN EC : Nat → Nat} (h : People w ao n EA EN EC) (hb : Below w.heap.size w w') : People w' ao n EA EN EC := by
  rcases h with h | ⟨b, off, rfl, hlt, hc⟩
  · exact .inl h
  · refine .inr ⟨b, off, rfl, Nat.lt_of_lt_of_le hlt hb.size, fun i hi => ?_⟩
    obtain ⟨⟨s, t, h1, h2⟩, h3, h4⟩ := hc i hi
    exact ⟨⟨s, t, (hb.cell (p := ⟨b, off + i * 3, none⟩) hlt).trans h1, (hb.cell (p := ⟨b, off + i * 3 + 1, none⟩) hlt).trans h2⟩, (hb.cell (p := ⟨b, off + i * 3 + 2, none⟩) hlt).trans h3, h4.below hb⟩
theorem Groups.below {w w' : World} {lo : Nat} {ao : Option Addr} {n : Nat} {MA : Nat → Option Addr} {MN MC : Nat → Nat} (h : Groups w lo ao n MA MN MC) (hb : Below w.heap.size w w') : Groups w' lo ao n MA MN MC := by
  rcases h with h | ⟨b, off, rfl, hlt, hc⟩
  · exact .inl h
  · refine .inr ⟨b, off, rfl, Nat.lt_of_lt_of_le hlt hb.size, fun i hi => ?_⟩
    obtain ⟨⟨s, t, u, h1, h2, h2'⟩, h3, h4⟩ := hc i hi
    exact ⟨⟨s, t, u, (hb.cell (p := ⟨b, off + i * 4, none⟩) hlt).trans h1, (hb.cell (p := ⟨b, off + i * 4 + 1, none⟩) hlt).trans h2, (hb.cell (p := ⟨b, off + i * 4 + 2, none⟩) hlt).trans h2'⟩,
      (hb.cell (p := ⟨b, off + i * 4 + 3, none⟩) hlt).trans h3, h4.below hb⟩

end Go.Proofs.Qxb6630111a
