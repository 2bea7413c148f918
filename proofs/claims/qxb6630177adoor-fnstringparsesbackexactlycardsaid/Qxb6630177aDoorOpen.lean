/-
  Seat b6630177aD: the opening of a slice of numbers that came in; what the row's condition gives; the witness's side of it.
-/
import Derived.Test.Qxb6630177aDoorEdge
import Derived.ProofKit
import Derived.LaidMore
import Derived.Lib.LaidTab
import Derived.Stop.Joined
namespace Go.Proofs.Qxb6630177aDoor
open Go.RowKit Go.Lib Go.ChangeShapes Go.WideShapes Go.ChangeAt

theorem Tryd.own : ownKnob Tryd.prog.godebug = none := by kernel_rfl
theorem Tryd.laidOut : laidOutB Tryd.prog = true := by kernel_rfl
theorem Tryd.cells36 : Tryd.prog.cellsOf 36 = 1 := by kernel_rfl
theorem Tryd.cells33 : Tryd.prog.cellsOf 33 = 1 := by kernel_rfl

/-- a slice of numbers, opened -/
theorem open_nums {H : Type} {enc : TypeId × Value → H} {W : World} {base : Nat} {sp : Nat → Bool} {held : Bool} {t e : TypeId} {k : IntKind} {a : Option Addr} {n c : Nat} {d : DataW H} {p : List MemPlace}
    (ht : Tryd.prog.underlying t = some (.slice e)) (he : Tryd.prog.underlying e = some (.int k)) (hc : Tryd.prog.cellsOf e = 1) (hk : k.signed = false)
    (h : DataW.Trod enc Tryd.prog W base sp held t (.slice a n c) d p) :
    ∃ Z : Nat → Nat, Ints k W a n Z ∧ ∀ i, i < n → (Lit.int k (Z i : Nat)).wf = true := by
  obtain ⟨m, hm⟩ := h
  rcases open_ints ht he hc hm with ⟨h0, _⟩ | ⟨ad, len, cap, zs, h0, _, hlc, _, hlen, _, hcell, hwf⟩
  · have h0' : Value.slice a n c = .slice none 0 0 := by simpa [Value.cells] using h0
    cases h0'
    exact ⟨fun _ => 0, .inl rfl, fun i hi => absurd hi (Nat.not_lt_zero _)⟩
  · have h0' : Value.slice a n c = .slice (some ad) len cap := by simpa [Value.cells] using h0
    cases h0'
    have hzl : n ≤ zs.length := by rw [hlen]; split <;> omega
    have hnn : ∀ i, i < n → (Lit.int k (zs.getD i 0)).wf = true := fun i hi => hwf _ (by
      rw [List.getD_eq_getElem?_getD, List.getElem?_eq_getElem (by omega), Option.getD_some]
      exact List.getElem_mem _)
    have hpos : ∀ i, i < n → ((zs.getD i 0).toNat : Int) = zs.getD i 0 := fun i hi => by
      have := hnn i hi
      refine Int.toNat_of_nonneg ?_
      cases k <;> first | (cases hk; done) | skip
      all_goals first | exact (bounds_u8 this).1 | exact (bounds_u16 this).1 | exact (bounds_u32 this).1 | exact (bounds_u64 this).1
    refine ⟨fun i => (zs.getD i 0).toNat, ?_, fun i hi => by rw [hpos i hi]; exact hnn i hi⟩
    by_cases h0n : n = 0
    · exact .inl h0n
    · obtain ⟨b, off, rfl, hcl⟩ := ints_at hcell (by omega)
      refine .inr ⟨b, off, rfl, World.block_lt_of_cell? W _ (hcl 0 (by omega)), fun i hi => ?_⟩
      rw [hcl i (by omega), hpos i hi]

/-! ### the listed variables -/
def laidL : List (String × DataW Unit) := Rows.fnStringSplitsAtAnyCutRow.laid
theorem pow10_at : Tryd.prog.globalNamed pow10Name = some 0 := by kernel_rfl
theorem pow10_type : (Tryd.prog.globals[0]?).map (·.type) = some 51 := by kernel_rfl
theorem Tryd.cells51 : Tryd.prog.cellsOf 51 = 20 := by kernel_rfl
theorem tab_of_laid {W : World} (h : laidMetH Tryd.prog laidL W) : TabIs Tryd.prog W pow10Name .u64 pow10Tab := by
  rw [MakeChecks.laidMetH_plain _ _ _ (by kernel_rfl)] at h
  obtain ⟨ps, ⟨g0, t0, cs0, f0, p0, q0, hg0, ht0, hv0, hd0, ⟨g1, t1, cs1, f1, p1, q1, hg1, ht1, hv1, hd1, ⟨g2, t2, cs2, f2, p2, q2, hg2, ht2, hv2, hd2, _, _⟩, _⟩, _⟩, _, _⟩ := h
  clear hg0 ht0 hv0 hd0 hg1 ht1 hv1 hd1
  obtain rfl := Option.some.inj (pow10_at.symm.trans hg2)
  obtain rfl := Option.some.inj (pow10_type.symm.trans ht2)
  have e := cells_of_tab (zs := pow10Tab) Tryd.underlying51 Tryd.underlying33 Tryd.cells33 Tryd.cells51 hd2
  show W.var? Tryd.prog pow10Name = _
  rw [show W.var? Tryd.prog pow10Name = some cs2 from hv2]
  congr 1
  cases cs2
  simpa using e
theorem door_met (os : Os) (args : Array Value) : laidMetH Tryd.prog laidL ((World.doorLaid Tryd.prog 400 os).forCall (fun _ _ => 0) ⟨#[], args, []⟩).memory :=
  laidMetH_of_parts3 (fuel := 8) (laidMet_of_run' 8 (by kernel_rfl) (by kernel_rfl)) (by kernel_rfl) (by kernel_rfl)
end Go.Proofs.Qxb6630177aDoor
