/-
  NARROWER THAN 'FOR EVERY INPUT', by the rows' own cells (each row's printed sentence says how): FnParseIDRoundTripsString: laid · FnParseIDAcceptsExactly64HexDigits: laid · FnParseIDThenStringIsLowercased: laid.
  DERIVED. THE GIVEN ROWS OF THIS SEAT. 3 by the template 'for every input the law returns true; each argument reads behind the call as it read before'; 0 by the template 'total and deterministic' (their statements: Qxb6002389aFmtTotals.lean).
  GIVEN WITH THE SEED: the statements are not yours to turn. If you find one false, say at which input.
  Laid BY PROGRAM, IN A SANDBOX (cutbox-rows.mjs): the forced cells as the released guide's own fill.sh prints them over the translation 709582c6362ffe15… (all of the seat's roots in one cut). By AI agents, Wed Nov 11 2026. No macro, syntax, notation, axiom, sorry.
-/
import Derived.Test.Qxb6002389aFmtChecked
import GoSem.Claim
import GoSem.ClaimJoined
import GoSem.ClaimMapViews
import Derived.JoinedTies
import Derived.KernelRfl
namespace Go.Proofs.Qxb6002389aFmt
/- THE CELL 'sum', in the pinned program and in every row, IS THE sha256 OF THE DUMP (.gsa) THAT Qxb6002389aFmtProg.lean LOADS. Nothing in Lean hashes anything: it is a label: what it is worth is what the hold of that sum in a sandbox is worth. -/
noncomputable def Tryf.pinned : Pinned := { name := "qxb6002389afmt", sum := "709582c6362ffe15a7841cfd6cc1545edb0b06a12713bcc5db05b763c10f7549", checked := Tryf.checked }
namespace Rows
def none {H : Type} : Left H := { results := [], args := [] }

/- WHAT THE LISTED PACKAGE-LEVEL VARIABLES READ AS WHEN THE CALL BEGINS. Each datum BY PROGRAM (the guide's laid-datum.mjs) off the statement by which the dump's own 'gosem.cut.vars' lays the variable. In a bare row this is a premise. The card (Qxb6002389aFmtCards.lean) ties it to the program's text. -/
def laid_encoding_hex_ErrLength {H : Type} : DataW H := .iface "*errors.errorString" (.ptr (.agg [.lit (.string [101, 110, 99, 111, 100, 105, 110, 103, 47, 104, 101, 120, 58, 32, 111, 100, 100, 32, 108, 101, 110, 103, 116, 104, 32, 104, 101, 120, 32, 115, 116, 114, 105, 110, 103])]))

/-- 'zzlaws_root_g1.FnParseIDRoundTripsString': WHATEVER THE INPUT: true; the input reads as it did. -/
def fnParseIDRoundTripsStringSpec : ChangeSpec := { name := "fnParseIDRoundTripsString", fn := fun _ => fun
  | [d] => { results := [.lit (.bool true)], args := [d] }
  | _ => none }
def fnParseIDRoundTripsStringRow : OpenClaim := { program := "qxb6002389afmt", sum := "709582c6362ffe15a7841cfd6cc1545edb0b06a12713bcc5db05b763c10f7549", func := "example.com/proofstore/proofstore/zzlaws_root_g1.FnParseIDRoundTripsString", spec := "fnParseIDRoundTripsString", stops := ["fmt.errorf, its operands' methods called", "fmt.Sprintf"], inPlace := ["fmt.errorf"], unfollowed := true, recurses := true, named := ["encoding/hex.ErrLength"], apart := false, laid := [("encoding/hex.ErrLength", laid_encoding_hex_ErrLength)] }
/-- NO THEOREM (fmt's text is open here; it may be false): for the released tool's asking of the row's closed facts alone. THE STATEMENT IS 'FnParseIDRoundTripsStringToldSaid' (Qxb6002389aFmtCards.lean). -/
def FnParseIDRoundTripsStringFormAsk : Prop := fnParseIDRoundTripsStringRow.holds Tryf.pinned (OpenSpec.ofChange fnParseIDRoundTripsStringSpec)

/-- ITS FALSE NEIGHBOUR: 'it returns false'. Refute it at one input. -/
def fnParseIDRoundTripsStringWrong : ChangeSpec := { name := "fnParseIDRoundTripsString", fn := fun _ => fun
  | [d] => { results := [.lit (.bool false)], args := [d] }
  | _ => none }
def FnParseIDRoundTripsStringWrongFormAsk : Prop := fnParseIDRoundTripsStringRow.holds Tryf.pinned (OpenSpec.ofChange fnParseIDRoundTripsStringWrong)

/-- 'zzlaws_root_g1.FnParseIDAcceptsExactly64HexDigits': WHATEVER THE INPUT: true; the input reads as it did. -/
def fnParseIDAcceptsExactly64HexDigitsSpec : ChangeSpec := { name := "fnParseIDAcceptsExactly64HexDigits", fn := fun _ => fun
  | [d] => { results := [.lit (.bool true)], args := [d] }
  | _ => none }
def fnParseIDAcceptsExactly64HexDigitsRow : OpenClaim := { program := "qxb6002389afmt", sum := "709582c6362ffe15a7841cfd6cc1545edb0b06a12713bcc5db05b763c10f7549", func := "example.com/proofstore/proofstore/zzlaws_root_g1.FnParseIDAcceptsExactly64HexDigits", spec := "fnParseIDAcceptsExactly64HexDigits", stops := ["fmt.errorf, its operands' methods called", "fmt.Sprintf"], inPlace := ["fmt.errorf"], unfollowed := true, recurses := true, named := ["encoding/hex.ErrLength"], apart := false, laid := [("encoding/hex.ErrLength", laid_encoding_hex_ErrLength)] }
/-- NO THEOREM (fmt's text is open here; it may be false): for the released tool's asking of the row's closed facts alone. THE STATEMENT IS 'FnParseIDAcceptsExactly64HexDigitsToldSaid' (Qxb6002389aFmtCards.lean). -/
def FnParseIDAcceptsExactly64HexDigitsFormAsk : Prop := fnParseIDAcceptsExactly64HexDigitsRow.holds Tryf.pinned (OpenSpec.ofChange fnParseIDAcceptsExactly64HexDigitsSpec)

/-- ITS FALSE NEIGHBOUR: 'it returns false'. Refute it at one input. -/
def fnParseIDAcceptsExactly64HexDigitsWrong : ChangeSpec := { name := "fnParseIDAcceptsExactly64HexDigits", fn := fun _ => fun
  | [d] => { results := [.lit (.bool false)], args := [d] }
  | _ => none }
def FnParseIDAcceptsExactly64HexDigitsWrongFormAsk : Prop := fnParseIDAcceptsExactly64HexDigitsRow.holds Tryf.pinned (OpenSpec.ofChange fnParseIDAcceptsExactly64HexDigitsWrong)

/-- 'zzlaws_root_g1.FnParseIDThenStringIsLowercased': WHATEVER THE INPUT: true; the input reads as it did. -/
def fnParseIDThenStringIsLowercasedSpec : ChangeSpec := { name := "fnParseIDThenStringIsLowercased", fn := fun _ => fun
  | [d] => { results := [.lit (.bool true)], args := [d] }
  | _ => none }
def fnParseIDThenStringIsLowercasedRow : OpenClaim := { program := "qxb6002389afmt", sum := "709582c6362ffe15a7841cfd6cc1545edb0b06a12713bcc5db05b763c10f7549", func := "example.com/proofstore/proofstore/zzlaws_root_g1.FnParseIDThenStringIsLowercased", spec := "fnParseIDThenStringIsLowercased", stops := ["fmt.errorf, its operands' methods called", "fmt.Sprintf"], inPlace := ["fmt.errorf"], unfollowed := true, recurses := true, named := ["encoding/hex.ErrLength"], apart := false, laid := [("encoding/hex.ErrLength", laid_encoding_hex_ErrLength)] }
/-- NO THEOREM (fmt's text is open here; it may be false): for the released tool's asking of the row's closed facts alone. THE STATEMENT IS 'FnParseIDThenStringIsLowercasedToldSaid' (Qxb6002389aFmtCards.lean). -/
def FnParseIDThenStringIsLowercasedFormAsk : Prop := fnParseIDThenStringIsLowercasedRow.holds Tryf.pinned (OpenSpec.ofChange fnParseIDThenStringIsLowercasedSpec)

/-- ITS FALSE NEIGHBOUR: 'it returns false'. Refute it at one input. -/
def fnParseIDThenStringIsLowercasedWrong : ChangeSpec := { name := "fnParseIDThenStringIsLowercased", fn := fun _ => fun
  | [d] => { results := [.lit (.bool false)], args := [d] }
  | _ => none }
def FnParseIDThenStringIsLowercasedWrongFormAsk : Prop := fnParseIDThenStringIsLowercasedRow.holds Tryf.pinned (OpenSpec.ofChange fnParseIDThenStringIsLowercasedWrong)

end Rows
end Go.Proofs.Qxb6002389aFmt
