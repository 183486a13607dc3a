/-
  No cell of these rows narrows 'for every input' (looked for: loops, veiled, ifaces, maps, wideKeys, modest, calm, conditions, laid).
  DERIVED. THE GIVEN ROWS OF THIS SEAT. 2 by the template 'for every input the law returns true; each argument reads behind the call as it read before'; 0 by the template 'total and deterministic' (their statements: Qxb6001510aTotals.lean).
  GIVEN WITH THE SEED: the statements are not yours to turn. If you find one false, say at which input.
  Laid BY PROGRAM, IN A SANDBOX (cutbox-rows.mjs): the forced cells as the released guide's own fill.sh prints them over the translation ce690813ef244860… (all of the seat's roots in one cut). By AI agents, Wed Nov 11 2026. No macro, syntax, notation, axiom, sorry.
-/
import Derived.Test.Qxb6001510aChecked
import GoSem.Claim
import GoSem.ClaimJoined
import GoSem.ClaimMapViews
import Derived.JoinedTies
import Derived.KernelRfl
namespace Go.Proofs.Qxb6001510a
/- THE CELL 'sum', in the pinned program and in every row, IS THE sha256 OF THE DUMP (.gsa) THAT Qxb6001510aProg.lean LOADS. Nothing in Lean hashes anything: it is a label: what it is worth is what the hold of that sum in a sandbox is worth. -/
noncomputable def Try.pinned : Pinned := { name := "qxb6001510a", sum := "ce690813ef2448607b5c1721d0ebff3aed0dc3621d96c18134242e9f98db2a77", checked := Try.checked }
namespace Rows
def none {H : Type} : Left H := { results := [], args := [] }

/-- 'zzlaws_postgres_b1.FnFillSlotInjectiveInEachArgument': WHATEVER THE INPUT: true; the input reads as it did. -/
def fnFillSlotInjectiveInEachArgumentSpec : ChangeSpec := { name := "fnFillSlotInjectiveInEachArgument", fn := fun _ => fun
  | [d1, d2, d3] => { results := [.lit (.bool true)], args := [d1, d2, d3] }
  | _ => none }
def fnFillSlotInjectiveInEachArgumentRow : OpenClaim := { program := "qxb6001510a", sum := "ce690813ef2448607b5c1721d0ebff3aed0dc3621d96c18134242e9f98db2a77", func := "example.com/commitpoint/commitpoint/zzlaws_postgres_b1.FnFillSlotInjectiveInEachArgument", spec := "fnFillSlotInjectiveInEachArgument", apart := false }
def FnFillSlotInjectiveInEachArgumentSaid : Prop := fnFillSlotInjectiveInEachArgumentRow.holds Try.pinned (OpenSpec.ofChange fnFillSlotInjectiveInEachArgumentSpec)

/-- ITS FALSE NEIGHBOUR: 'it returns false'. Refute it at one input. -/
def fnFillSlotInjectiveInEachArgumentWrong : ChangeSpec := { name := "fnFillSlotInjectiveInEachArgument", fn := fun _ => fun
  | [d1, d2, d3] => { results := [.lit (.bool false)], args := [d1, d2, d3] }
  | _ => none }
def FnFillSlotInjectiveInEachArgumentWrongFalsely : Prop := fnFillSlotInjectiveInEachArgumentRow.holds Try.pinned (OpenSpec.ofChange fnFillSlotInjectiveInEachArgumentWrong)

/-- 'zzlaws_postgres_b1.FnFillSlotLengthIsTemplatePlusArguments': WHATEVER THE INPUT: true; the input reads as it did. -/
def fnFillSlotLengthIsTemplatePlusArgumentsSpec : ChangeSpec := { name := "fnFillSlotLengthIsTemplatePlusArguments", fn := fun _ => fun
  | [d1, d2] => { results := [.lit (.bool true)], args := [d1, d2] }
  | _ => none }
def fnFillSlotLengthIsTemplatePlusArgumentsRow : OpenClaim := { program := "qxb6001510a", sum := "ce690813ef2448607b5c1721d0ebff3aed0dc3621d96c18134242e9f98db2a77", func := "example.com/commitpoint/commitpoint/zzlaws_postgres_b1.FnFillSlotLengthIsTemplatePlusArguments", spec := "fnFillSlotLengthIsTemplatePlusArguments", apart := false }
def FnFillSlotLengthIsTemplatePlusArgumentsSaid : Prop := fnFillSlotLengthIsTemplatePlusArgumentsRow.holds Try.pinned (OpenSpec.ofChange fnFillSlotLengthIsTemplatePlusArgumentsSpec)

/-- ITS FALSE NEIGHBOUR: 'it returns false'. Refute it at one input. -/
def fnFillSlotLengthIsTemplatePlusArgumentsWrong : ChangeSpec := { name := "fnFillSlotLengthIsTemplatePlusArguments", fn := fun _ => fun
  | [d1, d2] => { results := [.lit (.bool false)], args := [d1, d2] }
  | _ => none }
def FnFillSlotLengthIsTemplatePlusArgumentsWrongFalsely : Prop := fnFillSlotLengthIsTemplatePlusArgumentsRow.holds Try.pinned (OpenSpec.ofChange fnFillSlotLengthIsTemplatePlusArgumentsWrong)

end Rows
end Go.Proofs.Qxb6001510a
