/-
  No cell of these rows narrows 'for every input' (looked for: loops, veiled, ifaces, maps, wideKeys, modest, calm, conditions, laid).
  DERIVED. THE GIVEN ROWS OF THIS SEAT. 2 by the template 'for every input the law returns true; each argument reads behind the call as it read before'; 0 by the template 'total and deterministic' (their statements: Qxb6630072aTotals.lean).
  GIVEN WITH THE SEED: the statements are not yours to turn. If you find one false, say at which input.
  Laid BY PROGRAM, IN A SANDBOX (cutbox-rows.mjs): the forced cells as the released guide's own fill.sh prints them over the translation dd8f606459282e9b… (all of the seat's roots in one cut). By AI agents, Wed Nov 11 2026. No macro, syntax, notation, axiom, sorry.
-/
import Derived.Test.Qxb6630072aChecked
import GoSem.Claim
import GoSem.ClaimJoined
import GoSem.ClaimMapViews
import Derived.JoinedTies
import Derived.KernelRfl
namespace Go.Proofs.Qxb6630072a
/- THE CELL 'sum', in the pinned program and in every row, IS THE sha256 OF THE DUMP (.gsa) THAT Qxb6630072aProg.lean LOADS. Nothing in Lean hashes anything: it is a label: what it is worth is what the hold of that sum in a sandbox is worth. -/
noncomputable def Try.pinned : Pinned := { name := "qxb6630072a", sum := "dd8f606459282e9b5ab6917e2ea5e5d88361aa85df376246de85a8147c8d1909", checked := Try.checked }
namespace Rows
def none {H : Type} : Left H := { results := [], args := [] }

/-- 'zzlaws_fund_b1.FnOpenOnJoinAtAnyCut': WHATEVER THE INPUT: true; the input reads as it did. -/
def fnOpenOnJoinAtAnyCutSpec : ChangeSpec := { name := "fnOpenOnJoinAtAnyCut", fn := fun _ => fun
  | [d1, d2, d3, d4, d5, d6, d7] => { results := [.lit (.bool true)], args := [d1, d2, d3, d4, d5, d6, d7] }
  | _ => none }
def fnOpenOnJoinAtAnyCutRow : OpenClaim := { program := "qxb6630072a", sum := "dd8f606459282e9b5ab6917e2ea5e5d88361aa85df376246de85a8147c8d1909", func := "example.com/zhaomu/zhaomu/zzlaws_fund_b1.FnOpenOnJoinAtAnyCut", spec := "fnOpenOnJoinAtAnyCut", apart := false }
def FnOpenOnJoinAtAnyCutSaid : Prop := fnOpenOnJoinAtAnyCutRow.holds Try.pinned (OpenSpec.ofChange fnOpenOnJoinAtAnyCutSpec)

/-- ITS FALSE NEIGHBOUR: 'it returns false'. Refute it at one input. -/
def fnOpenOnJoinAtAnyCutWrong : ChangeSpec := { name := "fnOpenOnJoinAtAnyCut", fn := fun _ => fun
  | [d1, d2, d3, d4, d5, d6, d7] => { results := [.lit (.bool false)], args := [d1, d2, d3, d4, d5, d6, d7] }
  | _ => none }
def FnOpenOnJoinAtAnyCutWrongFalsely : Prop := fnOpenOnJoinAtAnyCutRow.holds Try.pinned (OpenSpec.ofChange fnOpenOnJoinAtAnyCutWrong)

/-- 'zzlaws_fund_b1.FnOpenOnInsertAnyPlace': WHATEVER THE INPUT: true; the input reads as it did. -/
def fnOpenOnInsertAnyPlaceSpec : ChangeSpec := { name := "fnOpenOnInsertAnyPlace", fn := fun _ => fun
  | [d1, d2, d3, d4, d5, d6, d7, d8, d9] => { results := [.lit (.bool true)], args := [d1, d2, d3, d4, d5, d6, d7, d8, d9] }
  | _ => none }
def fnOpenOnInsertAnyPlaceRow : OpenClaim := { program := "qxb6630072a", sum := "dd8f606459282e9b5ab6917e2ea5e5d88361aa85df376246de85a8147c8d1909", func := "example.com/zhaomu/zhaomu/zzlaws_fund_b1.FnOpenOnInsertAnyPlace", spec := "fnOpenOnInsertAnyPlace", apart := false }
def FnOpenOnInsertAnyPlaceSaid : Prop := fnOpenOnInsertAnyPlaceRow.holds Try.pinned (OpenSpec.ofChange fnOpenOnInsertAnyPlaceSpec)

/-- ITS FALSE NEIGHBOUR: 'it returns false'. Refute it at one input. -/
def fnOpenOnInsertAnyPlaceWrong : ChangeSpec := { name := "fnOpenOnInsertAnyPlace", fn := fun _ => fun
  | [d1, d2, d3, d4, d5, d6, d7, d8, d9] => { results := [.lit (.bool false)], args := [d1, d2, d3, d4, d5, d6, d7, d8, d9] }
  | _ => none }
def FnOpenOnInsertAnyPlaceWrongFalsely : Prop := fnOpenOnInsertAnyPlaceRow.holds Try.pinned (OpenSpec.ofChange fnOpenOnInsertAnyPlaceWrong)

end Rows
end Go.Proofs.Qxb6630072a
