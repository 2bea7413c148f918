/-
  DERIVED. GIVEN WITH THE SEED: THE CARDS: each row of Qxb6630177aDoorRows.lean that lists a variable, with what it lists TIED to the program's text (the seventh form; the later family's looks); each row that meets fmt, with fmt's text TOLD by the authors' own Lean function (tested against real Go, not proved from fmt's source: count such statements apart). THE CARD IS WHAT COUNTS. Prove the row's statement (the work); the ties are given (Qxb6630177aDoorTie.lean); close each card by the builder's one call (the guide's Derived/Test/ToyasCard.lean, 'card_holds'). Laid BY PROGRAM, IN A SANDBOX (cutbox-door.mjs). By AI agents, Wed Nov 11 2026. No macro, syntax, notation, axiom, sorry.
-/
import Derived.Test.Qxb6630177aDoorRows
import GoSem.ClaimSeven
namespace Go.Proofs.Qxb6630177aDoor
namespace Rows

/-- THE TIED CARD OF 'zzlaws_pkg_gtid_b1.FnStringParsesBackExactly'. -/
def fnStringParsesBackExactlyCard : Claim7 := { stood := { row := fnStringParsesBackExactlyRow, standIns := [], harness := (true, "c45d1635c77d39b2568956881e410352773f58ec08e5385fe2c41c4d1dcf29a3"), looks := false }, kinds := [], alts := [], laidByText := true, laidKinds := [.data, .data, .data], laidTests := true, laidLooks := .later }
def FnStringParsesBackExactlyCardSaid : Prop := Claim7.holds Tryd.pinned (.plain (OpenSpec.ofChange fnStringParsesBackExactlySpec)) fnStringParsesBackExactlyCard

/-- THE TIED CARD OF 'zzlaws_pkg_gtid_b1.FnStringSplitsAtAnyCut'. -/
def fnStringSplitsAtAnyCutCard : Claim7 := { stood := { row := fnStringSplitsAtAnyCutRow, standIns := [], harness := (true, "c45d1635c77d39b2568956881e410352773f58ec08e5385fe2c41c4d1dcf29a3"), looks := false }, kinds := [], alts := [], laidByText := true, laidKinds := [.data, .data, .data], laidTests := true, laidLooks := .later }
def FnStringSplitsAtAnyCutCardSaid : Prop := Claim7.holds Tryd.pinned (.plain (OpenSpec.ofChange fnStringSplitsAtAnyCutSpec)) fnStringSplitsAtAnyCutCard
end Rows
end Go.Proofs.Qxb6630177aDoor
