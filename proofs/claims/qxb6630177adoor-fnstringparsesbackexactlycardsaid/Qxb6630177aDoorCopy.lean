/-
  Seat b6630177aD: what 'make, copy' does to a slice of numbers: lemmas outside the walk.
-/
import Derived.Test.Qxb6630177aDoorPos
import Derived.Laws.CopyOwn
import Derived.Deep.DeepCutAuto
import Derived.Deep.RegionWith
namespace Go.Proofs.Qxb6630177aDoor
open Go.RowKit Go.Lib

theorem Tryd.info36 : (Tryd.prog.info? 36).map (fun i => (i.zero, i.size, i.bytes)) = some (some (.int .u32 0), 1, 4) := by kernel_rfl
theorem Tryd.info33 : (Tryd.prog.info? 33).map (fun i => (i.zero, i.size, i.bytes)) = some (some (.int .u64 0), 1, 8) := by kernel_rfl
theorem Tryd.size36 : (Tryd.prog.info? 36).map (·.size) = some 1 := by kernel_rfl
theorem Tryd.size33 : (Tryd.prog.info? 33).map (·.size) = some 1 := by kernel_rfl

theorem run_make22 (n : Nat) (hn : (n : Int) ≤ 65536) (w : World) :
    (Instr.makeSlice 22 (.int .i64 n) (.int .i64 n)).run Tryd.prog w = .ok (.slice (some ⟨w.heap.size, 0, none⟩) n n) (w.alloc (.cells (List.replicate n (Value.int .u32 0)).toArray 36)) := by
  obtain ⟨i0, hi, hz0, hz1, hz2⟩ := info_parts Tryd.info36
  have := run_make (P := Tryd.prog) w 22 36 i0 _ Tryd.underlying22 hi hz0 .i64 .i64 n n (by omega) (Int.le_refl _) (by rw [hz2]; omega) (by omega)
  have e : madeCells #[Value.int .u32 0] n = (List.replicate n (Value.int .u32 0)).toArray := by rw [← toList_madeCells_one]
  simpa [hz1, Value.cells, e] using this
theorem run_make23 (n : Nat) (hn : (n : Int) ≤ 65536) (w : World) :
    (Instr.makeSlice 23 (.int .i64 n) (.int .i64 n)).run Tryd.prog w = .ok (.slice (some ⟨w.heap.size, 0, none⟩) n n) (w.alloc (.cells (List.replicate n (Value.int .u64 0)).toArray 33)) := by
  obtain ⟨i0, hi, hz0, hz1, hz2⟩ := info_parts Tryd.info33
  have := run_make (P := Tryd.prog) w 23 33 i0 _ Tryd.underlying23 hi hz0 .i64 .i64 n n (by omega) (Int.le_refl _) (by rw [hz2]; omega) (by omega)
  have e : madeCells #[Value.int .u64 0] n = (List.replicate n (Value.int .u64 0)).toArray := by rw [← toList_madeCells_one]
  simpa [hz1, Value.cells, e] using this

/-- the numbers as cells -/
def cells (k : IntKind) (Z : Nat → Nat) (n : Nat) : List Value := (List.range n).map fun i => .int k (Z i : Nat)
theorem cells_length (k : IntKind) (Z : Nat → Nat) (n : Nat) : (cells k Z n).length = n := by simp [cells]
theorem cells_one (k : IntKind) (Z : Nat → Nat) (n : Nat) : ∀ v ∈ cells k Z n, v.oneCell' = true := by
  intro v hv
  simp [cells] at hv
  obtain ⟨i, _, rfl⟩ := hv
  rfl
theorem cells_at (k : IntKind) (Z : Nat → Nat) (n j : Nat) (hj : j < n) : (cells k Z n)[j]? = some (.int k (Z j : Nat)) := by simp [cells, hj]

theorem Ints.none_le {k : IntKind} {w : World} {n : Nat} {Z : Nat → Nat} (h : Ints k w none n Z) (c : Nat) : n ≤ c := by
  rcases h with h | ⟨_, _, h, _⟩
  · omega
  · cases h

/-- what the copy finds -/
theorem copy_from {k : IntKind} {w : World} {sp : Option Addr} {n : Nat} {Z : Nat → Nat} (h : Ints k w sp n Z) {wx : World} (hb : Below w.heap.size w wx) {g : Nat} :
    0 < (cells k Z n).length → (some ⟨g, 0, none⟩ : Option Addr) = some ⟨g, 0, none⟩ ∧ ∃ ad, sp = some ad ∧ ∀ j v, (cells k Z n)[j]? = some v → wx.cell? (ad.add j) = some v := by
  intro h0
  rw [cells_length] at h0
  rcases h with h | ⟨b, off, rfl, hlt, hc⟩
  · omega
  refine ⟨rfl, _, rfl, fun j v hj => ?_⟩
  have hjn : j < n := by
    have := (List.getElem?_eq_some_iff.1 hj).1
    rwa [cells_length] at this
  rw [cells_at k Z n j hjn] at hj
  cases hj
  rw [Go.WideShapes.add_plain]
  exact (hb.cell (p := ⟨b, off + j, none⟩) hlt).trans (hc j hjn)

/-- what the copy leaves -/
theorem copy_to {k : IntKind} {w : World} {g n : Nat} {Z : Nat → Nat} {z : Value} {t : TypeId} (h : w.heap[g]? = some (.cells (splice (List.replicate n z) 0 (cells k Z n)).toArray t (0, 0))) : Ints k w (some ⟨g, 0, none⟩) n Z := by
  have e : splice (List.replicate n z) 0 (cells k Z n) = cells k Z n := by
    unfold splice
    rw [cells_length]
    simp
  rw [e] at h
  refine .inr ⟨g, 0, rfl, (Array.getElem?_eq_some_iff.1 h).1, fun i hi => ?_⟩
  rw [Nat.zero_add]
  simp [World.cell?, h, cells_at k Z n i hi]

theorem made_block (w : World) (n : Nat) (z : Value) (t : TypeId) : (w.alloc (.cells (List.replicate n z).toArray t)).heap[w.heap.size]? = some (.cells (List.replicate n z).toArray t (0, 0)) := heap_alloc_new w _

end Go.Proofs.Qxb6630177aDoor
