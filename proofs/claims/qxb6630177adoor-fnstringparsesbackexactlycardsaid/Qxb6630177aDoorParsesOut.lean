/-
  Seat b6630177aD: FnStringParsesBackExactly, the ways out ahead of the texts.
-/
import Derived.Test.Qxb6630177aDoorEdge
import Derived.Deep.RegionHeld3
namespace Go.Proofs.Qxb6630177aDoor
open Go.RowKit Go.Lib
set_option linter.unusedVariables false      -- the tests of the walk use the bounds from the context

set_option maxRecDepth 1000000 in
/-- an unfit length -/
theorem parses_edge (a1 a2 a3 : Option Addr) (n1 n2 n3 c1 c2 c3 : Nat) (w : World) (hbad : ¬ ((n1 : Int) ≤ 65536 ∧ (n2 : Int) = (n1 : Int) ∧ (n3 : Int) = (n1 : Int))) :
    Calls Tryd.prog 3 #[.slice a1 n1 c1, .slice a2 n2 c2, .slice a3 n3 c3] w fun e w' => e = .returned (.bool true) ∧ Below w.heap.size w w' := by
  have A := Lib.hid (bytes5_any a1 a2 a3 n1 n2 n3 c1 c2 c3 w)
  by_cases h1 : (65536 : Int) < (n1 : Int)
  · clear hbad
    go_enter Tryd.func3, Tryd.ntmps3
    go_wp2_with fail
    refine A.out.mono ?_
    rintro _ _ ⟨b, rfl, rfl⟩
    cases b <;> (go_wp2; go_ret; exact ⟨rfl, Below.refl _ _⟩)
  by_cases h2 : (65536 : Int) < (n2 : Int)
  · clear hbad
    go_enter Tryd.func3, Tryd.ntmps3
    go_wp2_with fail
    refine A.out.mono ?_
    rintro _ _ ⟨b, rfl, rfl⟩
    cases b <;> (go_wp2; go_ret; exact ⟨rfl, Below.refl _ _⟩)
  by_cases h3 : (65536 : Int) < (n3 : Int)
  · clear hbad
    go_enter Tryd.func3, Tryd.ntmps3
    go_wp2_with fail
    refine A.out.mono ?_
    rintro _ _ ⟨b, rfl, rfl⟩
    cases b <;> (go_wp2; go_ret; exact ⟨rfl, Below.refl _ _⟩)
  by_cases h4 : (n2 : Int) = (n1 : Int)
  · have h5 : ((n3 : Int) == (n1 : Int)) = false := by rw [beq_eq_false_iff_ne]; omega
    obtain rfl : n2 = n1 := by omega
    clear hbad h4
    go_enter Tryd.func3, Tryd.ntmps3
    go_wp2_with fail
    refine A.out.mono ?_
    rintro _ _ ⟨b, rfl, rfl⟩
    cases b <;> (go_wp2; go_ret; exact ⟨rfl, Below.refl _ _⟩)
  · have h5 : ((n2 : Int) == (n1 : Int)) = false := by rw [beq_eq_false_iff_ne]; exact h4
    clear hbad h4
    go_enter Tryd.func3, Tryd.ntmps3
    go_wp2_with fail
    refine A.out.mono ?_
    rintro _ _ ⟨b, rfl, rfl⟩
    cases b <;> (go_wp2; go_ret; exact ⟨rfl, Below.refl _ _⟩)

end Go.Proofs.Qxb6630177aDoor
