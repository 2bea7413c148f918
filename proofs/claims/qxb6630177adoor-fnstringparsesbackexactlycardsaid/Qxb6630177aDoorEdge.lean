/-
  Seat b6630177aD: the early ways out of the two laws; and the opening of a slice of numbers.
-/
import Derived.Test.Qxb6630177aDoorCuts
import Derived.OpenShut
import Derived.ChangeSlices
namespace Go.Proofs.Qxb6630177aDoor
open Go.RowKit Go.Lib Go.ChangeShapes Go.WideShapes Go.ChangeAt

/-- it returns a bool, in the same world -/
def Tame (w : World) (r : Ending) (w' : World) : Prop := ∃ b, r = .returned (.bool b) ∧ w = w'

theorem bytes11_any (a1 a2 a3 : Option Addr) (n1 n2 n3 c1 c2 c3 : Nat) (q : Int) (w : World) :
    Calls Tryd.prog 11 #[.slice a1 n1 c1, .slice a2 n2 c2, .slice a3 n3 c3, .int .i64 q] w fun e w' => Tame w e w' := by
  go_enter Tryd.func11, Tryd.ntmps11
  go_wp2
  all_goals (go_ret; first | exact ⟨_, rfl, rfl⟩)
theorem bytes5_any (a1 a2 a3 : Option Addr) (n1 n2 n3 c1 c2 c3 : Nat) (w : World) :
    Calls Tryd.prog 5 #[.slice a1 n1 c1, .slice a2 n2 c2, .slice a3 n3 c3] w fun e w' => Tame w e w' := by
  go_enter Tryd.func5, Tryd.ntmps5
  go_wp2
  all_goals (go_ret; first | exact ⟨_, rfl, rfl⟩)
end Go.Proofs.Qxb6630177aDoor
