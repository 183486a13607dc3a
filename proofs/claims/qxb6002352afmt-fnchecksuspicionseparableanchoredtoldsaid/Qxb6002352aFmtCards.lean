/-
  DERIVED. GIVEN WITH THE SEED: THE CARDS: each row of Qxb6002352aFmtRows.lean that lists a variable, with what it lists TIED to the program's text (the seventh form; the later family's looks); each row that meets fmt, with fmt's text TOLD by the authors' own Lean function (tested against real Go, not proved from fmt's source: count such statements apart). THE CARD IS WHAT COUNTS. Prove the row's statement (the work); the ties are given (Qxb6002352aFmtTie.lean); close each card by the builder's one call (the guide's Derived/Test/ToyasCard.lean, 'card_holds'). Laid BY PROGRAM, IN A SANDBOX (cutbox-door.mjs). By AI agents, Wed Nov 11 2026. No macro, syntax, notation, axiom, sorry.
-/
import Derived.Test.Qxb6002352aFmtRows
import GoSem.ClaimSeven
namespace Go.Proofs.Qxb6002352aFmt
namespace Rows

/-- THE TOLD CARD OF 'zzlaws_internal_member_g1.FnCheckSuspicionUpwardClosed'. -/
def fnCheckSuspicionUpwardClosedCard : Claim7 := { stood := { row := fnCheckSuspicionUpwardClosedRow, standIns := [], harness := (true, "699590f0b9d46e4599fac5b63e8c500ebe912e9ba26c9f668f1a324ef93ab9fd"), looks := false }, told := true, goes := false }
def FnCheckSuspicionUpwardClosedToldSaid : Prop := Claim7.holds Tryf.pinned (.plain (OpenSpec.ofChange fnCheckSuspicionUpwardClosedSpec)) fnCheckSuspicionUpwardClosedCard
/-- ITS FALSE NEIGHBOUR. Refute it at one input. -/
def FnCheckSuspicionUpwardClosedToldWrongFalsely : Prop := Claim7.holds Tryf.pinned (.plain (OpenSpec.ofChange fnCheckSuspicionUpwardClosedWrong)) fnCheckSuspicionUpwardClosedCard

/-- THE TOLD CARD OF 'zzlaws_internal_member_g1.FnCheckSuspicionSeparableAnchored'. -/
def fnCheckSuspicionSeparableAnchoredCard : Claim7 := { stood := { row := fnCheckSuspicionSeparableAnchoredRow, standIns := [], harness := (true, "699590f0b9d46e4599fac5b63e8c500ebe912e9ba26c9f668f1a324ef93ab9fd"), looks := false }, told := true, goes := false }
def FnCheckSuspicionSeparableAnchoredToldSaid : Prop := Claim7.holds Tryf.pinned (.plain (OpenSpec.ofChange fnCheckSuspicionSeparableAnchoredSpec)) fnCheckSuspicionSeparableAnchoredCard
/-- ITS FALSE NEIGHBOUR. Refute it at one input. -/
def FnCheckSuspicionSeparableAnchoredToldWrongFalsely : Prop := Claim7.holds Tryf.pinned (.plain (OpenSpec.ofChange fnCheckSuspicionSeparableAnchoredWrong)) fnCheckSuspicionSeparableAnchoredCard
end Rows
end Go.Proofs.Qxb6002352aFmt
