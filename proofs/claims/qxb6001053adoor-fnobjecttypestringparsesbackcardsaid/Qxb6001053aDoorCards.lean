/-
  DERIVED. GIVEN WITH THE SEED: THE CARDS: each row of Qxb6001053aDoorRows.lean that lists a variable, with what it lists TIED to the program's text (the seventh form; the later family's looks); each row that meets fmt, with fmt's text TOLD by the authors' own Lean function (tested against real Go, not proved from fmt's source: count such statements apart). THE CARD IS WHAT COUNTS. Prove the row's statement (the work); the ties are given (Qxb6001053aDoorTie.lean); close each card by the builder's one call (the guide's Derived/Test/ToyasCard.lean, 'card_holds'). Laid BY PROGRAM, IN A SANDBOX (cutbox-door.mjs). By AI agents, Wed Nov 11 2026. No macro, syntax, notation, axiom, sorry.
-/
import Derived.Test.Qxb6001053aDoorRows
import GoSem.ClaimSeven
namespace Go.Proofs.Qxb6001053aDoor
namespace Rows

/-- THE TIED CARD OF 'zzlaws_root_b1.FnObjectTypeStringParsesBack'. -/
def fnObjectTypeStringParsesBackCard : Claim7 := { stood := { row := fnObjectTypeStringParsesBackRow, standIns := [], harness := (true, "fd4489156931150ffc1a0c68243f5aaff9bf28bf253f5c7e5f1692de2b22722d"), looks := false }, kinds := [], alts := [], laidByText := true, laidKinds := [.data, .data, .data], laidTests := true, laidLooks := .later }
def FnObjectTypeStringParsesBackCardSaid : Prop := Claim7.holds Tryd.pinned (.plain (OpenSpec.ofChange fnObjectTypeStringParsesBackSpec)) fnObjectTypeStringParsesBackCard

/-- THE TIED CARD OF 'zzlaws_root_b1.FnObjectTypeLetterNamesExactlyObjectTypes'. -/
def fnObjectTypeLetterNamesExactlyObjectTypesCard : Claim7 := { stood := { row := fnObjectTypeLetterNamesExactlyObjectTypesRow, standIns := [], harness := (true, "fd4489156931150ffc1a0c68243f5aaff9bf28bf253f5c7e5f1692de2b22722d"), looks := false }, kinds := [], alts := [], laidByText := true, laidKinds := [.data, .data, .data], laidTests := true, laidLooks := .later }
def FnObjectTypeLetterNamesExactlyObjectTypesCardSaid : Prop := Claim7.holds Tryd.pinned (.plain (OpenSpec.ofChange fnObjectTypeLetterNamesExactlyObjectTypesSpec)) fnObjectTypeLetterNamesExactlyObjectTypesCard
end Rows
end Go.Proofs.Qxb6001053aDoor
