/-
  Seat b6630177aD: what 's[:k]' and 's[k:]' make of a slice of numbers: lemmas outside the walk.
-/
import Derived.Test.Qxb6630177aDoorCopy
import Derived.ChangeKeysEq
namespace Go.Proofs.Qxb6630177aDoor
open Go.RowKit Go.Lib

theorem Ints.cut {k : IntKind} {w : World} {ao : Option Addr} {n m : Nat} {Z : Nat → Nat} (h : Ints k w ao n Z) (hm : m ≤ n) : Ints k w ao m Z := by
  rcases h with h | ⟨b, off, rfl, hlt, hc⟩
  · exact .inl (by omega)
  · exact .inr ⟨b, off, rfl, hlt, fun i hi => hc i (by omega)⟩
theorem Ints.drew {k : IntKind} {w : World} {ao : Option Addr} {n : Nat} {Z : Nat → Nat} (h : Ints k w ao n Z) : Ints k w.drew ao n Z := h.below ((Below.refl _ _).drew)
theorem Fit.cut {n m : Nat} {D S Q : Nat → Nat} (h : Fit n D S Q) (hm : m ≤ n) : Fit m D S Q := fun i hi => h i (by omega)
theorem Fit.aft {n k : Nat} {D S Q : Nat → Nat} (h : Fit n D S Q) : Fit (n - k) (fun i => D (k + i)) (fun i => S (k + i)) (fun i => Q (k + i)) := fun i hi => h (k + i) (by omega)
theorem undrew {w w' : World} (h : Below w.drew.heap.size w.drew w') : Below w.heap.size w w' := (Below.refl _ _).drew.trans h
theorem add_zero' (a : Addr) : a.add 0 = a := by cases a; rfl
theorem size_run {t : TypeId} (h : (Tryd.prog.info? t).map (·.size) = some 1) (w : World) : (sizeOf t).run Tryd.prog w = .ok 1 w := by
  rcases hi : Tryd.prog.info? t with _ | i
  · rw [hi] at h; cases h
  · rw [hi] at h
    have h' : i.size = 1 := by simpa using h
    rw [run_sizeOf w hi]
    simp [Program.cellsOf, hi, h']

theorem cut_any (t e : TypeId) (hu : Tryd.prog.underlying t = some (.slice (Tryd.prog.elem t))) (he : Tryd.prog.elem t = e) (hs : (Tryd.prog.info? e).map (·.size) = some 1) (a : Option Addr) (n c k : Nat) (hk : k ≤ c) (w : World) :
    (Instr.sliceAt t (.slice a n c) none (some (.int .i64 (k : Int))) none).run Tryd.prog w = .ok (.slice a k c) w := by
  rw [run_sliceAt_slice w t _ _ _ _ hu, run_slice_h w t a n c hu .i64 k (by omega) (by omega), he, size_run hs]
  have : a.map (·.add (0 * 1)) = a := by cases a <;> simp [add_zero']
  simp [Result.andThen, sliced, add_zero']
theorem cut22 (a : Option Addr) (n c k : Nat) (hk : k ≤ c) (w : World) : (Instr.sliceAt 22 (.slice a n c) none (some (.int .i64 (k : Int))) none).run Tryd.prog w = .ok (.slice a k c) w := cut_any 22 36 (by kernel_rfl) (by kernel_rfl) Tryd.size36 a n c k hk w
theorem cut23 (a : Option Addr) (n c k : Nat) (hk : k ≤ c) (w : World) : (Instr.sliceAt 23 (.slice a n c) none (some (.int .i64 (k : Int))) none).run Tryd.prog w = .ok (.slice a k c) w := cut_any 23 33 (by kernel_rfl) (by kernel_rfl) Tryd.size33 a n c k hk w

/-- where 's[k:]' begins -/
def aft (a : Option Addr) (k c : Nat) : Option Addr := if c = k then a else a.map (·.add k)
theorem aft_any (t e : TypeId) (hu : Tryd.prog.underlying t = some (.slice (Tryd.prog.elem t))) (he : Tryd.prog.elem t = e) (hs : (Tryd.prog.info? e).map (·.size) = some 1) (a : Option Addr) (n c k : Nat) (hk : k ≤ n) (w : World) :
    (Instr.sliceAt t (.slice a n c) (some (.int .i64 (k : Int))) none none).run Tryd.prog w = .ok (.slice (aft a k c) (n - k) (c - k)) w := by
  rw [run_sliceAt_slice w t _ _ _ _ hu, run_slice_l w t a n c hu .i64 k (by omega) (by omega), he, size_run hs]
  simp [Result.andThen, sliced, aft]
theorem aft22 (a : Option Addr) (n c k : Nat) (hk : k ≤ n) (w : World) : (Instr.sliceAt 22 (.slice a n c) (some (.int .i64 (k : Int))) none none).run Tryd.prog w = .ok (.slice (aft a k c) (n - k) (c - k)) w := aft_any 22 36 (by kernel_rfl) (by kernel_rfl) Tryd.size36 a n c k hk w
theorem aft23 (a : Option Addr) (n c k : Nat) (hk : k ≤ n) (w : World) : (Instr.sliceAt 23 (.slice a n c) (some (.int .i64 (k : Int))) none none).run Tryd.prog w = .ok (.slice (aft a k c) (n - k) (c - k)) w := aft_any 23 33 (by kernel_rfl) (by kernel_rfl) Tryd.size33 a n c k hk w
theorem Ints.aft {kd : IntKind} {w : World} {a : Option Addr} {n c k : Nat} {Z : Nat → Nat} (h : Ints kd w a n Z) (hc : n ≤ c) : Ints kd w (Qxb6630177aDoor.aft a k c) (n - k) (fun i => Z (k + i)) := by
  unfold Qxb6630177aDoor.aft
  by_cases hk : c = k
  · exact .inl (by omega)
  rw [if_neg hk]
  rcases h with h | ⟨b, off, rfl, hlt, hc⟩
  · exact .inl (by omega)
  · refine .inr ⟨b, off + k, ?_, hlt, fun i hi => ?_⟩
    · rw [Option.map_some, Go.WideShapes.add_plain]
    · rw [Nat.add_assoc]
      exact hc (k + i) (by omega)
end Go.Proofs.Qxb6630177aDoor
