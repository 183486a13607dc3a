/-
  DERIVED. GIVEN WITH THE SEED: THE CARDS: each row of Qxb6002389aFmtRows.lean that lists a variable, with what it lists TIED to the program's text (the seventh form; the later family's looks); each row that meets fmt, with fmt's text TOLD by the authors' own Lean function (tested against real Go, not proved from fmt's source: count such statements apart). THE CARD IS WHAT COUNTS. Prove the row's statement (the work); the ties are given (Qxb6002389aFmtTie.lean); close each card by the builder's one call (the guide's Derived/Test/ToyasCard.lean, 'card_holds'). Laid BY PROGRAM, IN A SANDBOX (cutbox-door.mjs). By AI agents, Wed Nov 11 2026. No macro, syntax, notation, axiom, sorry.
-/
import Derived.Test.Qxb6002389aFmtRows
import GoSem.ClaimSeven
namespace Go.Proofs.Qxb6002389aFmt
namespace Rows

/-- THE TOLD AND TIED CARD OF 'zzlaws_root_g1.FnParseIDRoundTripsString'. -/
def fnParseIDRoundTripsStringCard : Claim7 := { stood := { row := fnParseIDRoundTripsStringRow, standIns := [], harness := (true, "0d491c045186b0d8cc2ee8c1bffa20dc29b040b246671c4d6ebb7e4f73440681"), looks := false }, told := true, laidByText := true, laidKinds := [.sentinel], laidTests := true, laidLooks := .later, goes := false }
def FnParseIDRoundTripsStringToldSaid : Prop := Claim7.holds Tryf.pinned (.plain (OpenSpec.ofChange fnParseIDRoundTripsStringSpec)) fnParseIDRoundTripsStringCard
/-- ITS FALSE NEIGHBOUR. Refute it at one input. -/
def FnParseIDRoundTripsStringToldWrongFalsely : Prop := Claim7.holds Tryf.pinned (.plain (OpenSpec.ofChange fnParseIDRoundTripsStringWrong)) fnParseIDRoundTripsStringCard

/-- THE TOLD AND TIED CARD OF 'zzlaws_root_g1.FnParseIDAcceptsExactly64HexDigits'. -/
def fnParseIDAcceptsExactly64HexDigitsCard : Claim7 := { stood := { row := fnParseIDAcceptsExactly64HexDigitsRow, standIns := [], harness := (true, "0d491c045186b0d8cc2ee8c1bffa20dc29b040b246671c4d6ebb7e4f73440681"), looks := false }, told := true, laidByText := true, laidKinds := [.sentinel], laidTests := true, laidLooks := .later, goes := false }
def FnParseIDAcceptsExactly64HexDigitsToldSaid : Prop := Claim7.holds Tryf.pinned (.plain (OpenSpec.ofChange fnParseIDAcceptsExactly64HexDigitsSpec)) fnParseIDAcceptsExactly64HexDigitsCard
/-- ITS FALSE NEIGHBOUR. Refute it at one input. -/
def FnParseIDAcceptsExactly64HexDigitsToldWrongFalsely : Prop := Claim7.holds Tryf.pinned (.plain (OpenSpec.ofChange fnParseIDAcceptsExactly64HexDigitsWrong)) fnParseIDAcceptsExactly64HexDigitsCard

/-- THE TOLD AND TIED CARD OF 'zzlaws_root_g1.FnParseIDThenStringIsLowercased'. -/
def fnParseIDThenStringIsLowercasedCard : Claim7 := { stood := { row := fnParseIDThenStringIsLowercasedRow, standIns := [], harness := (true, "0d491c045186b0d8cc2ee8c1bffa20dc29b040b246671c4d6ebb7e4f73440681"), looks := false }, told := true, laidByText := true, laidKinds := [.sentinel], laidTests := true, laidLooks := .later, goes := false }
def FnParseIDThenStringIsLowercasedToldSaid : Prop := Claim7.holds Tryf.pinned (.plain (OpenSpec.ofChange fnParseIDThenStringIsLowercasedSpec)) fnParseIDThenStringIsLowercasedCard
/-- ITS FALSE NEIGHBOUR. Refute it at one input. -/
def FnParseIDThenStringIsLowercasedToldWrongFalsely : Prop := Claim7.holds Tryf.pinned (.plain (OpenSpec.ofChange fnParseIDThenStringIsLowercasedWrong)) fnParseIDThenStringIsLowercasedCard
end Rows
end Go.Proofs.Qxb6002389aFmt
