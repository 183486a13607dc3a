/-
  'Rows.FnFillSlotInjectiveInEachArgumentSaid': for every three strings the law returns true and the strings read as before. The frame is the guide's shell (proof-skeleton.mjs); the plain law and the walk are ours.
-/
import Derived.Test.Qxb6001510aRows
import Derived.Test.Qxb6001510aWalks
import Derived.WalkKit
import Derived.ProofKit
import Derived.OpenShut
import Derived.ShutString
namespace Go.Proofs.Qxb6001510a.fnFillSlotInjectiveInEachArgument
open Go.ChangeShapes Go.WideShapes Go.ChangeAt Go.RowKit
open Go.ChangeMaps (open_string shut_string)
set_option linter.unusedVariables false      -- a walk need not use every 'w<i>' (that an integer argument fits its kind)

theorem ret_bool {a b : Bool} (h : a = b) : Ending.returned (.bool a) = .returned (.bool b) := by rw [h]

/-! ### The plain law -/

theorem eq_both (x y x' y' : ByteArray) (h : x = y ↔ x' = y') : (x.toList == y.toList) = (x'.toList == y'.toList) := by
  rw [Bool.eq_iff_iff, beq_iff_eq, beq_iff_eq, ByteArray.toList_eq, ByteArray.toList_eq, ByteArray.toList_eq, ByteArray.toList_eq]
  constructor
  · intro k
    rw [h.1 (bytes_inj k)]
  · intro k
    rw [h.2 (bytes_inj k)]

theorem cancel {l r : ByteArray} {x y : ByteArray} (h : l ++ x ++ r = l ++ y ++ r) : x = y := by
  apply bytes_inj
  have := congrArg (fun z : ByteArray => z.data.toList) h
  simpa using this

theorem same_by (p m q a b o : ByteArray) : ((p ++ a ++ m ++ o ++ q).toList == (p ++ b ++ m ++ o ++ q).toList) = (a.toList == b.toList) :=
  eq_both _ _ _ _ ⟨fun h => cancel (l := p) (r := m ++ o ++ q) (by simpa [ByteArray.append_assoc] using h), fun h => by rw [h]⟩

theorem same_until (p m q a b o : ByteArray) : ((p ++ o ++ m ++ a ++ q).toList == (p ++ o ++ m ++ b ++ q).toList) = (a.toList == b.toList) :=
  eq_both _ _ _ _ ⟨fun h => cancel (l := p ++ o ++ m) (r := q) (by simpa [ByteArray.append_assoc] using h), fun h => by rw [h]⟩

theorem own : ownKnob Try.prog.godebug = none := by kernel_rfl

/-! ### THE WALK: the Go text returns true. 'Grown w w'': the world has at most new blocks (Derived/RowKit3.lean). Part the cases AHEAD of 'go_enter' where a test parts the walk; take each callee by a contract of your own. -/
theorem walk (a0 : ByteArray) (a1 : ByteArray) (a2 : ByteArray) (w0 : a0.size ≤ maxLen) (w1 : a1.size ≤ maxLen) (w2 : a2.size ≤ maxLen) (w : World) :
    Calls Try.prog 3 #[.string a0, .string a1, .string a2] w fun e w' => e = .returned (.bool true) ∧ Grown w w' := by
  obtain ⟨p, m, q, hp, hm, hq, hfill⟩ := fill
  by_cases c : a0.size ≤ 1048576 ∧ a1.size ≤ 1048576 ∧ a2.size ≤ 1048576 ∧ a0.size + a1.size + a2.size ≤ 1048576
  · obtain ⟨c0, c1, c2, c3⟩ := c
    have c4 : a0.size + a1.size ≤ 1048576 := by omega
    unfold maxLen at w0 w1 w2
    have f0 := hfill a0 a2 w c0 c2
    have f1 := hfill a1 a2 w c1 c2
    have f2 := hfill a2 a0 w c2 c0
    have f3 := hfill a2 a1 w c2 c1
    clear hfill
    by_cases d0 : a0.size ≤ 262144
    · by_cases d1 : a1.size ≤ 262144
      · by_cases d2 : a2.size ≤ 262144
        · go_enter Try.func3, Try.ntmps3
          go_wp2_with (go_at_call 5; refine (zz5_yes a0 a1 a2 _ c0 c1 c4 c2 c3).mono ?_; rintro e w' ⟨rfl, rfl⟩)
          refine f0.mono ?_
          rintro e w' ⟨rfl, rfl⟩
          go_wp2_with fail
          refine f1.mono ?_
          rintro e w' ⟨rfl, rfl⟩
          go_wp2_with fail
          refine f2.mono ?_
          rintro e w' ⟨rfl, rfl⟩
          go_wp2_with fail
          refine f3.mono ?_
          rintro e w' ⟨rfl, rfl⟩
          go_wp2
          · go_ret
            exact ⟨ret_bool (beq_iff_eq.2 (same_until p m q a0 a1 a2)), Grown.refl _⟩
          · rename_i hne
            exact absurd (same_by p m q a0 a1 a2) hne
        · go_enter Try.func3, Try.ntmps3
          go_wp2_with (go_at_call 5; refine (zz5_yes a0 a1 a2 _ c0 c1 c4 c2 c3).mono ?_; rintro e w' ⟨rfl, rfl⟩)
          go_ret
          exact ⟨rfl, Grown.refl _⟩
      · go_enter Try.func3, Try.ntmps3
        go_wp2_with (go_at_call 5; refine (zz5_yes a0 a1 a2 _ c0 c1 c4 c2 c3).mono ?_; rintro e w' ⟨rfl, rfl⟩)
        go_ret
        exact ⟨rfl, Grown.refl _⟩
    · go_enter Try.func3, Try.ntmps3
      go_wp2_with (go_at_call 5; refine (zz5_yes a0 a1 a2 _ c0 c1 c4 c2 c3).mono ?_; rintro e w' ⟨rfl, rfl⟩)
      go_ret
      exact ⟨rfl, Grown.refl _⟩
  · go_enter Try.func3, Try.ntmps3
    go_wp2_with (go_at_call 5; refine (zz5_no a0 a1 a2 _ w0 w1 w2 c).mono ?_; rintro e w' ⟨rfl, rfl⟩)
    go_ret
    exact ⟨rfl, Grown.refl _⟩

/-! ### THE ROW's STEP: WRITTEN OUT: LEAVE IT -/
set_option maxRecDepth 100000 in
theorem lifted (os : Os) (started : os.Started) (H : Type) (enc : TypeId × Value → H) :
    ReturnsInHanded {} Try.checked os 3 .any (Rows.fnFillSlotInjectiveInEachArgumentSpec.pre6 enc Try.prog Try.f3 Rows.fnFillSlotInjectiveInEachArgumentRow.domain false) (Rows.fnFillSlotInjectiveInEachArgumentSpec.post enc Try.prog Try.f3 false true false false) := by
  refine returnsInHanded_of_change (C := Try.checked) own started (by kernel_rfl) Try.func3
    (ChangeSpec.witness6 (enc := enc) (C := Try.checked) false ⟨#[], #[.string ByteArray.empty, .string ByteArray.empty, .string ByteArray.empty], []⟩ 8 (by kernel_rfl) (by kernel_rfl) (by kernel_rfl) (by kernel_rfl)) ?_
  intro W base args ds gs before hval0 hW hcnd _
  have hval : ∀ (j : Nat) t v, Try.f3.params[j]? = some t → args[j]? = some v → Value.okWide Try.prog W .any base t v := hval0
  have hW' := hW
  obtain ⟨p, q, hA0, hV, rfl, hfz, hnd⟩ := hW
  have hA : DataW.TrodAll enc Try.prog W 0 (fun _ => true) true Try.f3.params.toList args.toList ds p := hA0
  rw [Try.params3] at hA hval
  obtain ⟨v0, vs0, d0, ds0, p0, q0, hargs, rfl, rfl, h0, r0⟩ := trodAll_cons hA
  obtain ⟨v1, vs1, d1, ds1, p1, q1, rfl, rfl, rfl, h1, r1⟩ := trodAll_cons r0
  obtain ⟨v2, vs2, d2, ds2, p2, q2, rfl, rfl, rfl, h2, r2⟩ := trodAll_cons r1
  obtain ⟨rfl, rfl, rfl⟩ := trodAll_nil r2
  obtain rfl : args = #[v0, v1, v2] := by cases args; simp_all
  obtain ⟨rfl, rfl⟩ := trodVars_none hV
  obtain ⟨a0, rfl, rfl, rfl, w0⟩ := open_string Try.underlying9 (hval 0 9 v0 rfl rfl) h0
  obtain ⟨a1, rfl, rfl, rfl, w1⟩ := open_string Try.underlying9 (hval 1 9 v1 rfl rfl) h1
  obtain ⟨a2, rfl, rfl, rfl, w2⟩ := open_string Try.underlying9 (hval 2 9 v2 rfl rfl) h2
  clear hA0 hval0
  simp only [List.append_nil] at hW'
  refine (walk a0 a1 a2 w0 w1 w2 W).mono fun e W' ⟨he, hg⟩ => ?_
  subst he
  exact ⟨_, rfl, post_of_same (pa := []) (pv := []) hW' (fun _ _ _ => (trodAll_cons_mk (shut_bool Try.underlying4 _) trodAll_mk0)) (fun sp _ => (trodAll_cons_mk (shut_string Try.underlying9 w0) (trodAll_cons_mk (shut_string Try.underlying9 w1) (trodAll_cons_mk (shut_string Try.underlying9 w2) trodAll_mk0)))) (fun _ _ => rfl) rfl
    (hg.frame _) hg.2.1 (ok_one (by kernel_rfl) rfl (okWide_bool_mk Try.underlying4 _))⟩

theorem over : Rows.fnFillSlotInjectiveInEachArgumentRow.holds Try.pinned (OpenSpec.ofChange Rows.fnFillSlotInjectiveInEachArgumentSpec) :=
  OpenClaim.holds_of_wide 3 Try.f3 rfl rfl rfl rfl rfl rfl rfl ⟨rfl, rfl, rfl, rfl, rfl⟩ rfl rfl rfl rfl rfl (by kernel_rfl) Try.func3 (by kernel_rfl)
    (of_decide_eq_true (by kernel_rfl)) (by unfold Func.isWrapper; first | (rw [if_pos (by decide +kernel)]; kernel_rfl) | (rw [if_neg (by decide +kernel)]; exact ⟨rfl, rfl⟩))
    (fun os started H enc _ => lifted os started H enc)

/-- ████ THE STATEMENT ████ -/
theorem proved : Rows.FnFillSlotInjectiveInEachArgumentSaid :=
  over
end Go.Proofs.Qxb6001510a.fnFillSlotInjectiveInEachArgument

namespace Go.Proofs.Qxb6001510a
/-- The claim, by a plain name. -/
theorem fnFillSlotInjectiveInEachArgument_holds : Rows.FnFillSlotInjectiveInEachArgumentSaid := fnFillSlotInjectiveInEachArgument.proved
end Go.Proofs.Qxb6001510a
