/-
  DERIVED. GIVEN WITH THE SEED: THE PROGRAM's TIES (one call each: nine closed facts by the kernel) AND EACH ROW's TIE, after the 31st guide's Derived/Test/Toyas{Tie, Card}.lean. No idea stands in it: it is a product of the set-up. Laid BY PROGRAM, IN A SANDBOX (cutbox-door.mjs). By AI agents, Wed Nov 11 2026. No macro, syntax, notation, axiom, sorry.
-/
import Derived.Test.Qxb6002389aFmtRows
import Derived.LaidByTextLater
import Derived.SevenTiedAt
import Derived.LaidSub
import Derived.LaidOnce
namespace Go.Proofs.Qxb6002389aFmt
open Go
set_option maxRecDepth 100000
theorem seatTie1 : Tryf.prog.laidByTextLater [("encoding/hex.ErrLength", Rows.laid_encoding_hex_ErrLength)] [.sentinel] true :=
  Program.laidByTextLater_by_one 28 8 2 (by kernel_rfl) (by kernel_rfl) (by kernel_rfl) (by kernel_rfl) (by kernel_rfl) (by kernel_rfl) (fun _ _ => by kernel_rfl)
theorem noOwnUnsafe : Tryf.pinned.checked.prog.headLifts.contains "ownunsafe" = false := by kernel_rfl
theorem tie : Tryf.prog.laidByTextLater [("encoding/hex.ErrLength", Rows.laid_encoding_hex_ErrLength)] [.sentinel] true :=
  Program.laidByTextLater.sub seatTie1 ["encoding/hex.ErrLength"] (by kernel_rfl) (by kernel_rfl)
theorem fnParseIDRoundTripsString_row_tie : Rows.fnParseIDRoundTripsStringRow.laidByTextAt .later Tryf.pinned [.sentinel] true :=
  OpenClaim.laidByTextAt_later rfl rfl tie noOwnUnsafe
theorem fnParseIDAcceptsExactly64HexDigits_row_tie : Rows.fnParseIDAcceptsExactly64HexDigitsRow.laidByTextAt .later Tryf.pinned [.sentinel] true :=
  OpenClaim.laidByTextAt_later rfl rfl tie noOwnUnsafe
theorem fnParseIDThenStringIsLowercased_row_tie : Rows.fnParseIDThenStringIsLowercasedRow.laidByTextAt .later Tryf.pinned [.sentinel] true :=
  OpenClaim.laidByTextAt_later rfl rfl tie noOwnUnsafe
end Go.Proofs.Qxb6002389aFmt
