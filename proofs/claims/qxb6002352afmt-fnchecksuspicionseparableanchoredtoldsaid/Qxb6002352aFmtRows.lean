/-
  No cell of these rows narrows 'for every input' (looked for: loops, veiled, ifaces, maps, wideKeys, modest, calm, conditions, laid).
  DERIVED. THE GIVEN ROWS OF THIS SEAT. 2 by the template 'for every input the law returns true; each argument reads behind the call as it read before'; 0 by the template 'total and deterministic' (their statements: Qxb6002352aFmtTotals.lean).
  GIVEN WITH THE SEED: the statements are not yours to turn. If you find one false, say at which input.
  Laid BY PROGRAM, IN A SANDBOX (cutbox-rows.mjs): the forced cells as the released guide's own fill.sh prints them over the translation b58ee0a37a9791a4… (all of the seat's roots in one cut). By AI agents, Wed Nov 11 2026. No macro, syntax, notation, axiom, sorry.
-/
import Derived.Test.Qxb6002352aFmtChecked
import GoSem.Claim
import GoSem.ClaimJoined
import GoSem.ClaimMapViews
import Derived.JoinedTies
import Derived.KernelRfl
namespace Go.Proofs.Qxb6002352aFmt
/- THE CELL 'sum', in the pinned program and in every row, IS THE sha256 OF THE DUMP (.gsa) THAT Qxb6002352aFmtProg.lean LOADS. Nothing in Lean hashes anything: it is a label: what it is worth is what the hold of that sum in a sandbox is worth. -/
noncomputable def Tryf.pinned : Pinned := { name := "qxb6002352afmt", sum := "b58ee0a37a9791a45a4596fe0b3c79e8671a66ebe72d29eedf44d07852d12535", checked := Tryf.checked }
namespace Rows
def none {H : Type} : Left H := { results := [], args := [] }

/-- 'zzlaws_internal_member_g1.FnCheckSuspicionUpwardClosed': WHATEVER THE INPUT: true; the input reads as it did. -/
def fnCheckSuspicionUpwardClosedSpec : ChangeSpec := { name := "fnCheckSuspicionUpwardClosed", fn := fun _ => fun
  | [d1, d2, d3, d4] => { results := [.lit (.bool true)], args := [d1, d2, d3, d4] }
  | _ => none }
def fnCheckSuspicionUpwardClosedRow : OpenClaim := { program := "qxb6002352afmt", sum := "b58ee0a37a9791a45a4596fe0b3c79e8671a66ebe72d29eedf44d07852d12535", func := "example.com/riftwatch/riftwatch/zzlaws_internal_member_g1.FnCheckSuspicionUpwardClosed", spec := "fnCheckSuspicionUpwardClosed", stops := ["fmt.errorf, its operands' methods called"], inPlace := ["fmt.errorf"], unfollowed := true, recurses := true, apart := false }
/-- NO THEOREM (fmt's text is open here; it may be false): for the released tool's asking of the row's closed facts alone. THE STATEMENT IS 'FnCheckSuspicionUpwardClosedToldSaid' (Qxb6002352aFmtCards.lean). -/
def FnCheckSuspicionUpwardClosedFormAsk : Prop := fnCheckSuspicionUpwardClosedRow.holds Tryf.pinned (OpenSpec.ofChange fnCheckSuspicionUpwardClosedSpec)

/-- ITS FALSE NEIGHBOUR: 'it returns false'. Refute it at one input. -/
def fnCheckSuspicionUpwardClosedWrong : ChangeSpec := { name := "fnCheckSuspicionUpwardClosed", fn := fun _ => fun
  | [d1, d2, d3, d4] => { results := [.lit (.bool false)], args := [d1, d2, d3, d4] }
  | _ => none }
def FnCheckSuspicionUpwardClosedWrongFormAsk : Prop := fnCheckSuspicionUpwardClosedRow.holds Tryf.pinned (OpenSpec.ofChange fnCheckSuspicionUpwardClosedWrong)

/-- 'zzlaws_internal_member_g1.FnCheckSuspicionSeparableAnchored': WHATEVER THE INPUT: true; the input reads as it did. -/
def fnCheckSuspicionSeparableAnchoredSpec : ChangeSpec := { name := "fnCheckSuspicionSeparableAnchored", fn := fun _ => fun
  | [d1, d2] => { results := [.lit (.bool true)], args := [d1, d2] }
  | _ => none }
def fnCheckSuspicionSeparableAnchoredRow : OpenClaim := { program := "qxb6002352afmt", sum := "b58ee0a37a9791a45a4596fe0b3c79e8671a66ebe72d29eedf44d07852d12535", func := "example.com/riftwatch/riftwatch/zzlaws_internal_member_g1.FnCheckSuspicionSeparableAnchored", spec := "fnCheckSuspicionSeparableAnchored", stops := ["fmt.errorf, its operands' methods called"], inPlace := ["fmt.errorf"], unfollowed := true, recurses := true, apart := false }
/-- NO THEOREM (fmt's text is open here; it may be false): for the released tool's asking of the row's closed facts alone. THE STATEMENT IS 'FnCheckSuspicionSeparableAnchoredToldSaid' (Qxb6002352aFmtCards.lean). -/
def FnCheckSuspicionSeparableAnchoredFormAsk : Prop := fnCheckSuspicionSeparableAnchoredRow.holds Tryf.pinned (OpenSpec.ofChange fnCheckSuspicionSeparableAnchoredSpec)

/-- ITS FALSE NEIGHBOUR: 'it returns false'. Refute it at one input. -/
def fnCheckSuspicionSeparableAnchoredWrong : ChangeSpec := { name := "fnCheckSuspicionSeparableAnchored", fn := fun _ => fun
  | [d1, d2] => { results := [.lit (.bool false)], args := [d1, d2] }
  | _ => none }
def FnCheckSuspicionSeparableAnchoredWrongFormAsk : Prop := fnCheckSuspicionSeparableAnchoredRow.holds Tryf.pinned (OpenSpec.ofChange fnCheckSuspicionSeparableAnchoredWrong)

end Rows
end Go.Proofs.Qxb6002352aFmt
