/-
  No cell of these rows narrows 'for every input' (looked for: loops, veiled, ifaces, maps, wideKeys, modest, calm, conditions, laid).
  DERIVED. THE GIVEN ROWS OF THIS SEAT. 2 by the template 'for every input the law returns true; each argument reads behind the call as it read before'; 0 by the template 'total and deterministic' (their statements: Qxb6630206aTotals.lean).
  GIVEN WITH THE SEED: the statements are not yours to turn. If you find one false, say at which input.
  Laid BY PROGRAM, IN A SANDBOX (cutbox-rows.mjs): the forced cells as the released guide's own fill.sh prints them over the translation 62b2d0d7d1e6499e… (all of the seat's roots in one cut). By AI agents, Wed Nov 11 2026. No macro, syntax, notation, axiom, sorry.
-/
import Derived.Test.Qxb6630206aChecked
import GoSem.Claim
import GoSem.ClaimJoined
import GoSem.ClaimMapViews
import Derived.JoinedTies
import Derived.KernelRfl
namespace Go.Proofs.Qxb6630206a
/- THE CELL 'sum', in the pinned program and in every row, IS THE sha256 OF THE DUMP (.gsa) THAT Qxb6630206aProg.lean LOADS. Nothing in Lean hashes anything: it is a label: what it is worth is what the hold of that sum in a sandbox is worth. -/
noncomputable def Try.pinned : Pinned := { name := "qxb6630206a", sum := "62b2d0d7d1e6499ef4140f28aaa23b5ba0fd904e45689f22c1792604032e3933", checked := Try.checked }
namespace Rows
def none {H : Type} : Left H := { results := [], args := [] }

/-- 'zzlaws_root_b1.FnNearEndExactlyWhenFirstRunCoversAllButLastTen': WHATEVER THE INPUT: true; the input reads as it did. -/
def fnNearEndExactlyWhenFirstRunCoversAllButLastTenSpec : ChangeSpec := { name := "fnNearEndExactlyWhenFirstRunCoversAllButLastTen", fn := fun _ => fun
  | [d1, d2] => { results := [.lit (.bool true)], args := [d1, d2] }
  | _ => none }
def fnNearEndExactlyWhenFirstRunCoversAllButLastTenRow : OpenClaim := { program := "qxb6630206a", sum := "62b2d0d7d1e6499ef4140f28aaa23b5ba0fd904e45689f22c1792604032e3933", func := "example.com/larboard/larboard/zzlaws_root_b1.FnNearEndExactlyWhenFirstRunCoversAllButLastTen", spec := "fnNearEndExactlyWhenFirstRunCoversAllButLastTen", apart := false }
def FnNearEndExactlyWhenFirstRunCoversAllButLastTenSaid : Prop := fnNearEndExactlyWhenFirstRunCoversAllButLastTenRow.holds Try.pinned (OpenSpec.ofChange fnNearEndExactlyWhenFirstRunCoversAllButLastTenSpec)

/-- ITS FALSE NEIGHBOUR: 'it returns false'. Refute it at one input. -/
def fnNearEndExactlyWhenFirstRunCoversAllButLastTenWrong : ChangeSpec := { name := "fnNearEndExactlyWhenFirstRunCoversAllButLastTen", fn := fun _ => fun
  | [d1, d2] => { results := [.lit (.bool false)], args := [d1, d2] }
  | _ => none }
def FnNearEndExactlyWhenFirstRunCoversAllButLastTenWrongFalsely : Prop := fnNearEndExactlyWhenFirstRunCoversAllButLastTenRow.holds Try.pinned (OpenSpec.ofChange fnNearEndExactlyWhenFirstRunCoversAllButLastTenWrong)

/-- 'zzlaws_root_b1.FnNearEndPrefixClosedLocalAndSharpAtItsLastDepth': WHATEVER THE INPUT: true; the input reads as it did. -/
def fnNearEndPrefixClosedLocalAndSharpAtItsLastDepthSpec : ChangeSpec := { name := "fnNearEndPrefixClosedLocalAndSharpAtItsLastDepth", fn := fun _ => fun
  | [d1, d2, d3] => { results := [.lit (.bool true)], args := [d1, d2, d3] }
  | _ => none }
def fnNearEndPrefixClosedLocalAndSharpAtItsLastDepthRow : OpenClaim := { program := "qxb6630206a", sum := "62b2d0d7d1e6499ef4140f28aaa23b5ba0fd904e45689f22c1792604032e3933", func := "example.com/larboard/larboard/zzlaws_root_b1.FnNearEndPrefixClosedLocalAndSharpAtItsLastDepth", spec := "fnNearEndPrefixClosedLocalAndSharpAtItsLastDepth", apart := false }
def FnNearEndPrefixClosedLocalAndSharpAtItsLastDepthSaid : Prop := fnNearEndPrefixClosedLocalAndSharpAtItsLastDepthRow.holds Try.pinned (OpenSpec.ofChange fnNearEndPrefixClosedLocalAndSharpAtItsLastDepthSpec)

/-- ITS FALSE NEIGHBOUR: 'it returns false'. Refute it at one input. -/
def fnNearEndPrefixClosedLocalAndSharpAtItsLastDepthWrong : ChangeSpec := { name := "fnNearEndPrefixClosedLocalAndSharpAtItsLastDepth", fn := fun _ => fun
  | [d1, d2, d3] => { results := [.lit (.bool false)], args := [d1, d2, d3] }
  | _ => none }
def FnNearEndPrefixClosedLocalAndSharpAtItsLastDepthWrongFalsely : Prop := fnNearEndPrefixClosedLocalAndSharpAtItsLastDepthRow.holds Try.pinned (OpenSpec.ofChange fnNearEndPrefixClosedLocalAndSharpAtItsLastDepthWrong)

end Rows
end Go.Proofs.Qxb6630206a
