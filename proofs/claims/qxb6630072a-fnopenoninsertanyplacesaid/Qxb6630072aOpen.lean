/-
  What the slice of periods that came in leads to (for both rows of the seat).
-/
import Derived.Test.Qxb6630072aToOpen
import Derived.OpenShut
import Derived.ShutString
import Derived.ChangeOld
import Derived.Below
import Derived.Deep.SlicePairs
namespace Go.Proofs.Qxb6630072a
open Go.ChangeShapes Go.WideShapes Go.ChangeAt Go.RowKit

theorem Try.own : ownKnob Try.prog.godebug = none := by kernel_rfl
theorem Try.laidOut : laidOutB Try.prog = true := by kernel_rfl
theorem Try.cells3 : Try.prog.cellsOf 3 = 1 := by kernel_rfl
theorem Try.cells34 : Try.prog.cellsOf 34 = 2 := by kernel_rfl

/-- THE SLICE THAT CAME IN: nil, or it leads to its periods. -/
theorem open_periods {H : Type} {enc : TypeId × Value → H} {W : World} {d : DataW H} {p : List MemPlace} {ao : Option Addr} {len cap : Nat}
    (h : DataW.Trod enc Try.prog W 0 (fun _ => true) true 22 (.slice ao len cap) d p) :
    (ao = none ∧ len = 0 ∧ cap = 0) ∨ ∃ a F T, ao = some a ∧ Lies W a len F T := by
  obtain ⟨fuel, hf⟩ := h
  rcases Go.Deep.open_slice_pairs Try.underlying22 Try.underlying34 Try.cells34 rfl rfl Try.cells3 Try.cells3 hf with ⟨hcs, _⟩ | ⟨a, l, c, m, n, V0, V1, D0, D1, P0, P1, hcs, _, hl, _, hm, hx, hcell⟩
  · simp [Value.cells] at hcs
    exact .inl hcs
  · simp [Value.cells] at hcs
    obtain ⟨rfl, rfl, rfl⟩ := hcs
    simp only [if_true] at hm
    subst hm
    have key : ∀ i, i < m → ∃ q : Int × Int, W.cell? (a.add (i * 2)) = some (.int .i64 q.1) ∧ W.cell? (a.add (i * 2 + 1)) = some (.int .i64 q.2) := by
      intro i hi
      obtain ⟨c0, c1, t0, t1⟩ := hcell i hi
      obtain ⟨x0, e0, _, _⟩ := DataW.trod_int Try.underlying3 t0
      obtain ⟨x1, e1, _, _⟩ := DataW.trod_int Try.underlying3 t1
      simp at e0 e1
      exact ⟨(x0, x1), by rw [c0, e0], by rw [c1, e1]⟩
    obtain ⟨q, hq⟩ := Go.Deep.choose_lt key
    refine .inr ⟨a, fun i => (q i).1, fun i => (q i).2, rfl, ?_⟩
    by_cases h0 : len = 0
    · exact .inl h0
    · right
      have hc0 := (hq 0 (by omega)).1
      obtain ⟨b, off, spot⟩ := a
      have hspot : spot = none := by simpa [Addr.add] using World.cell?_spot hc0
      subst hspot
      refine ⟨b, off, rfl, ?_, fun i hi => ?_⟩
      · have : b < W.heap.size := by
          simp [Addr.add] at hc0
          exact World.block_lt_of_cell? W _ hc0
        exact this
      · have := hq i (by omega)
        rw [add_plain, add_plain] at this
        exact ⟨this.1, by have := this.2; rwa [← Nat.add_assoc] at this⟩
end Go.Proofs.Qxb6630072a
