/-
  No cell of these rows narrows 'for every input' (looked for: loops, veiled, ifaces, maps, wideKeys, modest, calm, conditions, laid).
  DERIVED. THE GIVEN ROWS OF THIS SEAT. 2 by the template 'for every input the law returns true; each argument reads behind the call as it read before'; 0 by the template 'total and deterministic' (their statements: Qxb6630111aTotals.lean).
  GIVEN WITH THE SEED: the statements are not yours to turn. If you find one false, say at which input.
  Laid BY PROGRAM, IN A SANDBOX (cutbox-rows.mjs): the forced cells as the released guide's own fill.sh prints them over the translation e9ba6c442ef74d73… (all of the seat's roots in one cut). By AI agents, Wed Nov 11 2026. No macro, syntax, notation, axiom, sorry.
-/
import Derived.Test.Qxb6630111aChecked
import GoSem.Claim
import GoSem.ClaimJoined
import GoSem.ClaimMapViews
import Derived.JoinedTies
import Derived.KernelRfl
namespace Go.Proofs.Qxb6630111a
/- THE CELL 'sum', in the pinned program and in every row, IS THE sha256 OF THE DUMP (.gsa) THAT Qxb6630111aProg.lean LOADS. Nothing in Lean hashes anything: it is a label: what it is worth is what the hold of that sum in a sandbox is worth. -/
noncomputable def Try.pinned : Pinned := { name := "qxb6630111a", sum := "e9ba6c442ef74d7372bef02a053ad8d3744f7c0c30b6b3ea6303763ebc74a377", checked := Try.checked }
namespace Rows
def none {H : Type} : Left H := { results := [], args := [] }

/-- 'zzlaws_pkg_directory_b1.FnMembershipsSplitsAtEveryCut': WHATEVER THE INPUT: true; the input reads as it did. -/
def fnMembershipsSplitsAtEveryCutSpec : ChangeSpec := { name := "fnMembershipsSplitsAtEveryCut", fn := fun _ => fun
  | [d1, d2, d3] => { results := [.lit (.bool true)], args := [d1, d2, d3] }
  | _ => none }
def fnMembershipsSplitsAtEveryCutRow : OpenClaim := { program := "qxb6630111a", sum := "e9ba6c442ef74d7372bef02a053ad8d3744f7c0c30b6b3ea6303763ebc74a377", func := "example.com/rollcall/rollcall/zzlaws_pkg_directory_b1.FnMembershipsSplitsAtEveryCut", spec := "fnMembershipsSplitsAtEveryCut", apart := false }
def FnMembershipsSplitsAtEveryCutSaid : Prop := fnMembershipsSplitsAtEveryCutRow.holds Try.pinned (OpenSpec.ofChange fnMembershipsSplitsAtEveryCutSpec)

/-- ITS FALSE NEIGHBOUR: 'it returns false'. Refute it at one input. -/
def fnMembershipsSplitsAtEveryCutWrong : ChangeSpec := { name := "fnMembershipsSplitsAtEveryCut", fn := fun _ => fun
  | [d1, d2, d3] => { results := [.lit (.bool false)], args := [d1, d2, d3] }
  | _ => none }
def FnMembershipsSplitsAtEveryCutWrongFalsely : Prop := fnMembershipsSplitsAtEveryCutRow.holds Try.pinned (OpenSpec.ofChange fnMembershipsSplitsAtEveryCutWrong)

/-- 'zzlaws_pkg_directory_b1.FnMembershipsCountsOneMoreMember': WHATEVER THE INPUT: true; the input reads as it did. -/
def fnMembershipsCountsOneMoreMemberSpec : ChangeSpec := { name := "fnMembershipsCountsOneMoreMember", fn := fun _ => fun
  | [d1, d2, d3, d4, d5, d6] => { results := [.lit (.bool true)], args := [d1, d2, d3, d4, d5, d6] }
  | _ => none }
def fnMembershipsCountsOneMoreMemberRow : OpenClaim := { program := "qxb6630111a", sum := "e9ba6c442ef74d7372bef02a053ad8d3744f7c0c30b6b3ea6303763ebc74a377", func := "example.com/rollcall/rollcall/zzlaws_pkg_directory_b1.FnMembershipsCountsOneMoreMember", spec := "fnMembershipsCountsOneMoreMember", apart := false }
def FnMembershipsCountsOneMoreMemberSaid : Prop := fnMembershipsCountsOneMoreMemberRow.holds Try.pinned (OpenSpec.ofChange fnMembershipsCountsOneMoreMemberSpec)

/-- ITS FALSE NEIGHBOUR: 'it returns false'. Refute it at one input. -/
def fnMembershipsCountsOneMoreMemberWrong : ChangeSpec := { name := "fnMembershipsCountsOneMoreMember", fn := fun _ => fun
  | [d1, d2, d3, d4, d5, d6] => { results := [.lit (.bool false)], args := [d1, d2, d3, d4, d5, d6] }
  | _ => none }
def FnMembershipsCountsOneMoreMemberWrongFalsely : Prop := fnMembershipsCountsOneMoreMemberRow.holds Try.pinned (OpenSpec.ofChange fnMembershipsCountsOneMoreMemberWrong)

end Rows
end Go.Proofs.Qxb6630111a
