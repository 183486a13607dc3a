/-
  SEAT b6002389aF: 'Rows.FnParseIDAcceptsExactly64HexDigitsToldSaid': the told and tied card (after the guide's IpowTold, PortSeven, MapyProofs). The law's answer does not hang on fmt's text.
-/
import Derived.Test.Qxb6002389aFmtCards
import Derived.Test.Qxb6002389aFmtTie
import Derived.Test.Qxb6002389aFmtLaw
import Derived.ProofKit
import Derived.LaidMore
import Derived.Stop.Joined
import Derived.Stop.JoinedTold
import Derived.SevenToldRow
import Derived.SevenTiedAt
namespace Go.Proofs.Qxb6002389aFmt
open Go.ChangeShapes Go.WideShapes Go.ChangeAt Go.RowKit
open Go.ChangeMaps (open_string shut_string)
open Go.Extern.Stop Go.Stop Go.Extern

theorem own : ownKnob Tryf.prog.godebug = none := by kernel_rfl

/-- The library's variable that the row lists, by its name there. -/
def errName : String := Rows.fnParseIDAcceptsExactly64HexDigitsRow.named.headD ""
theorem gErr : Tryf.prog.globalNamed errName = some 0 := by kernel_rfl
theorem tErr : (Tryf.prog.globals[0]?).map (·.type) = some 26 := by kernel_rfl

/-- What the listed condition gives the walk: the variable's cell holds some value. -/
theorem of_laid {W : World} (h : laidMetH Tryf.prog Rows.fnParseIDAcceptsExactly64HexDigitsRow.laid W) : ∃ ev, W.cell? ⟨0, 0, none⟩ = some ev := by
  rw [MakeChecks.laidMetH_plain _ _ _ (by kernel_rfl)] at h
  obtain ⟨ps, ⟨g0, t0, cs0, f0, p0, q0, hg0, ht0, hv0, hd0, _, _⟩, _, _⟩ := h
  obtain rfl := Option.some.inj (gErr.symm.trans hg0)
  obtain rfl := Option.some.inj (tErr.symm.trans ht0)
  obtain ⟨l0⟩ := cs0
  cases l0 with
  | nil =>
    cases f0 with
    | zero => simp [DataW.trod] at hd0
    | succ n => simp [DataW.trod, Tryf.underlying26] at hd0
  | cons v r => exact ⟨v, by simpa using World.var?_cell hg0 hv0 0⟩

/-- The door's own heap meets the condition. -/
theorem door_met (os : Os) (args : Array Value) : laidMetH Tryf.prog Rows.fnParseIDAcceptsExactly64HexDigitsRow.laid ((World.doorLaid Tryf.prog 28 os).forCall (fun _ _ => 0) ⟨#[], args, []⟩).memory :=
  laidMetH_of_parts3 (fuel := 8) (laidMet_of_run' 8 (by kernel_rfl) (by kernel_rfl)) (by kernel_rfl) (by kernel_rfl)

set_option maxRecDepth 100000 in
theorem accepts_lifted (os : Os) (started : os.Started) (H : Type) (enc : TypeId × Value → H) :
    ReturnsInTold none {} Tryf.checked os 4 .any Input.okWide ((OpenSpec.ofChange Rows.fnParseIDAcceptsExactly64HexDigitsSpec).preRow enc Tryf.prog Tryf.f4 [] false Rows.fnParseIDAcceptsExactly64HexDigitsRow.laid)
      (fun F => ((OpenSpec.ofChange Rows.fnParseIDAcceptsExactly64HexDigitsSpec).at F).post enc Tryf.prog Tryf.f4 false true false false) (aloneAtReturn Tryf.prog) nothingAlways := by
  refine returnsInTold_of_row (C := Tryf.checked) (s := OpenSpec.ofChange Rows.fnParseIDAcceptsExactly64HexDigitsSpec) (by kernel_rfl) own started (by kernel_rfl) Tryf.func4
    (OpenSpec.witness_stopped_at (enc := enc) (C := Tryf.checked) false (World.doorLaid Tryf.prog 28 os) #[.string ByteArray.empty] rfl (by kernel_rfl) (by kernel_rfl) (by kernel_rfl)
      (OpenSpec.preRow_of_B rfl 8 (by kernel_rfl) (by kernel_rfl) (door_met os _))) ?_
  intro F W base args ds gs before _ hF hval0 hW _ _ _ hL _
  have hval : ∀ (j : Nat) t v, Tryf.f4.params[j]? = some t → args[j]? = some v → Value.okWide Tryf.prog W .any base t v := hval0
  have hW' := hW
  obtain ⟨p, q, hA0, hV, rfl, hfz, hnd⟩ := hW
  have hA : DataW.TrodAll enc Tryf.prog W 0 (fun _ => true) true Tryf.f4.params.toList args.toList ds p := hA0
  rw [Tryf.params4] at hA hval
  obtain ⟨v0, d0, rfl, rfl, h0⟩ := trodAll_one hA
  obtain ⟨rfl, rfl⟩ := trodVars_none hV
  obtain ⟨s, rfl, rfl, rfl, hs⟩ := open_string Tryf.underlying9 (hval 0 9 v0 rfl rfl) h0
  obtain ⟨ev, hE⟩ := of_laid hL
  clear hA0 hval0
  simp only [List.append_nil] at hW'
  refine (law_any F.told s ev W hF hE hs).mono fun e W' ⟨he, hB⟩ => ?_
  subst he
  exact ⟨_, rfl, _, _, _, [], [], [], hW', trodAll_mk1 (shut_bool Tryf.underlying4 _), trodAll_mk1 (shut_string Tryf.underlying9 hs), rfl, hB.frame _, fun h => by cases h⟩

theorem laidOut : laidOutB Tryf.pinned.checked.prog = true := by kernel_rfl
theorem stops : Tryf.pinned.checked.prog.stops = Rows.fnParseIDAcceptsExactly64HexDigitsRow.stops := by kernel_rfl
theorem stopKnobs : Tryf.pinned.checked.prog.stopKnobs = [] := by kernel_rfl
theorem quiet (os : Os) : Stop.quiet Tryf.pinned.checked.prog os := by
  intro k hk
  rw [stopKnobs] at hk
  cases hk

theorem accepts_card : Rows.FnParseIDAcceptsExactly64HexDigitsToldSaid :=
  Claim7.holds_of_told_tied_any_at .later 4 Tryf.f4 (Rows.fnParseIDAcceptsExactly64HexDigitsRow.stops.headD "") Rows.fnParseIDAcceptsExactly64HexDigitsRow.stops.tail [] _ _ _ _ _ (by kernel_rfl) rfl rfl rfl laidOut (by kernel_rfl) rfl ⟨rfl, rfl, rfl, rfl, rfl, rfl, rfl⟩ rfl rfl (by kernel_rfl) (by kernel_rfl) Tryf.func4 (by kernel_rfl)
    (of_decide_eq_true (by kernel_rfl)) (of_decide_eq_true (by kernel_rfl)) stops.symm rfl stopKnobs.symm (by kernel_rfl)
    (by kernel_rfl) (by kernel_rfl) (by kernel_rfl) (by kernel_rfl) (by kernel_rfl) (by kernel_rfl) (by kernel_rfl) (by kernel_rfl) (by kernel_rfl) rfl (by kernel_rfl) rfl rfl
    rfl rfl
    rfl (by kernel_rfl) (by kernel_rfl) (by kernel_rfl) (by decide) (by kernel_rfl) fnParseIDAcceptsExactly64HexDigits_row_tie
    (OpenClaim.moreEntering_of (by kernel_rfl) (by kernel_rfl) (by kernel_rfl) (by kernel_rfl) (by kernel_rfl) (by kernel_rfl) (by kernel_rfl) (by kernel_rfl) (by kernel_rfl) (by kernel_rfl))
    ⟨_, WideRow.started_initial, quiet _⟩
    (fun os started _ H enc _ => accepts_lifted os started H enc)

end Go.Proofs.Qxb6002389aFmt
