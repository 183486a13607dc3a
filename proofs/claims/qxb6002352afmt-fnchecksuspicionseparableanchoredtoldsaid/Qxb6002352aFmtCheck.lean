/-
  SEAT b6002352aF: THE WALKS OF member.CheckSuspicion (function 6), runnable (5) AND THE LAW FnCheckSuspicionSeparableAnchored (4), fmt's text whatever F gives.
-/
import Derived.Test.Qxb6002352aFmtFacts
import Derived.Test.Qxb6002352aFmtString
import Derived.WalkKit
import Derived.WalkSpells
namespace Go.Proofs.Qxb6002352aFmt
open Go.RowKit Go.Extern.Stop Go.Stop Go.Extern

set_option maxHeartbeats 400000 in
theorem check_ok (d n : Int) (w : World) (h0 : 0 < d) (h1 : 0 ≤ n) :
    Calls Tryf.prog 6 #[.int .i64 d, .int .i64 n] w fun e w' => e = .returned .nilIface ∧ w' = w := by
  go_enter Tryf.func6, Tryf.ntmps6
  go_wp2
  go_ret
  exact ⟨rfl, rfl⟩

set_option maxHeartbeats 800000 in
theorem check_faults (F : Interp) (d n : Int) (w : World) (hF : F.answers w.tape) (h0 : 0 < d) (h1 : n < 0) :
    Calls Tryf.prog 6 #[.int .i64 d, .int .i64 n] w fun e w' => ∃ a, e = .returned (.iface 32 (.pointer (some a))) ∧ Below w.heap.size w w' := by
  have hF' := answers_open hF
  have k1 := call8
  have k2 := guard
  have k3 := fmt1
  have k4 := fmt1r
  have k5 := act3
  have k6 := op3
  have k7 := str3
  have k8 := ptr32
  have k9 := elem32
  go_enter Tryf.func6, Tryf.ntmps6
  go_wp2
  apply rows_value nextTurns
  case hr =>
    go_simp
    exact ⟨rfl, rfl⟩
  case h =>
    go_wp2
    go_ret
    exact ⟨_, rfl, (((Below.refl _ w).alloc (Nat.le_refl _) _).alloc (by simp) _).drew⟩

set_option maxHeartbeats 800000 in
theorem check_pause (F : Interp) (d n : Int) (w : World) (hF : F.answers w.tape) (h0 : d ≤ 0) (h1 : -9223372036854775808 ≤ d) :
    Calls Tryf.prog 6 #[.int .i64 d, .int .i64 n] w fun e w' => ∃ a, e = .returned (.iface 32 (.pointer (some a))) ∧ Below w.heap.size w w' := by
  have hF' := answers_open hF
  have k1 := call8
  have k2 := guard
  have k3 := fmt0
  have k4 := fmt0r
  have k5 := act27
  have k6 := isString27
  have k7 := str27
  have k8 := ptr32
  have k9 := elem32
  go_enter Tryf.func6, Tryf.ntmps6
  go_wp2
  apply rows_call nextTurns
  case hr =>
    go_simp
    exact ⟨⟨rfl, rfl, rfl⟩, rfl⟩
  case hi => exact invokeString27 _ _
  case hc =>
    refine (string_any d _ h0 h1).mono fun e w₃ hx => ?_
    obtain ⟨s, rfl, hs, hb⟩ := hx
    have hF3 := answers_open (show F.answers w₃.tape by rw [hb.tape]; exact hF)
    have HB : Hid (Below w.heap.size w w₃) := ((Below.refl _ w).alloc (Nat.le_refl _) _).trans (hb.mono (by simp))
    clear hb hF'
    apply rows_value nextReturned
    case hr =>
      go_simp
      exact ⟨rfl, rfl⟩
    case h =>
      go_wp2
      go_ret
      exact ⟨_, rfl, (HB.out.alloc HB.out.size _).drew⟩

/-! ### runnable -/

set_option maxHeartbeats 400000 in
theorem run_yes (d n : Int) (w : World) (h0 : 0 < d) (h1 : 0 ≤ n) :
    Calls Tryf.prog 5 #[.int .i64 d, .int .i64 n] w fun e w' => e = .returned (.bool true) ∧ w' = w := by
  go_enter Tryf.func5, Tryf.ntmps5
  go_wp2_with fail
  refine (check_ok d n _ h0 h1).mono ?_
  rintro e w' ⟨rfl, rfl⟩
  go_wp2
  go_ret
  exact ⟨rfl, rfl⟩

theorem check_no (F : Interp) (d n : Int) (w : World) (hF : F.answers w.tape) (hd : -9223372036854775808 ≤ d) (h : ¬ (0 < d ∧ 0 ≤ n)) :
    Calls Tryf.prog 6 #[.int .i64 d, .int .i64 n] w fun e w' => ∃ a, e = .returned (.iface 32 (.pointer (some a))) ∧ Below w.heap.size w w' := by
  by_cases h0 : 0 < d
  · exact check_faults F d n w hF h0 (by omega)
  · exact check_pause F d n w hF (by omega) hd

set_option maxHeartbeats 400000 in
theorem run_no (F : Interp) (d n : Int) (w : World) (hF : F.answers w.tape) (hd : -9223372036854775808 ≤ d) (h : ¬ (0 < d ∧ 0 ≤ n)) :
    Calls Tryf.prog 5 #[.int .i64 d, .int .i64 n] w fun e w' => e = .returned (.bool false) ∧ Below w.heap.size w w' := by
  have hc := check_no F d n w hF hd h
  clear h
  go_enter Tryf.func5, Tryf.ntmps5
  go_wp2_with fail
  refine hc.mono ?_
  clear hc
  rintro e w' ⟨a, rfl, hb⟩
  go_wp2
  go_ret
  exact ⟨rfl, hb⟩

/-! ### The law -/

/-- The last three calls: (1, 0) is taken, (0, 0) and (1, -1) are not. -/
theorem later {w w1 : World} (h : Below w.heap.size w w1) {w2 : World} (k : Below w1.heap.size w1 w2) : Below w.heap.size w w2 := h.trans (k.mono h.size)

theorem answers_later {F : Interp} {w w1 : World} (hF : F.answers w.tape) (h : Below w.heap.size w w1) : F.answers w1.tape := by rw [h.tape]; exact hF

set_option maxHeartbeats 800000 in
theorem law_yes (F : Interp) (q l : Int) (w : World) (hF : F.answers w.tape) (h0 : 0 < q) (h1 : 0 ≤ l) :
    Calls Tryf.prog 4 #[.int .i64 q, .int .i64 l] w fun e w' => e = .returned (.bool true) ∧ Below w.heap.size w w' := by
  have HF : Hid (F.answers w.tape) := hF
  clear hF
  go_enter Tryf.func4, Tryf.ntmps4
  go_wp2_with fail
  refine (run_yes q l _ h0 h1).mono ?_
  rintro e w1 ⟨rfl, rfl⟩
  go_wp2_with fail
  refine (run_yes q 0 _ h0 (by omega)).mono ?_
  rintro e w1 ⟨rfl, rfl⟩
  go_wp2_with fail
  refine (run_yes 1 l _ (by omega) h1).mono ?_
  rintro e w1 ⟨rfl, rfl⟩
  go_wp2_with fail
  refine (run_yes 1 0 _ (by omega) (by omega)).mono ?_
  rintro e w1 ⟨rfl, rfl⟩
  go_wp2_with fail
  refine (run_no F 0 0 _ HF.out (by omega) (by omega)).mono ?_
  rintro e w2 ⟨rfl, hb2⟩
  have HB2 : Hid (Below w1.heap.size w1 w2) := hb2
  clear hb2
  go_wp2_with fail
  refine (run_no F 1 (-1) _ (answers_later HF.out HB2.out) (by omega) (by omega)).mono ?_
  rintro e w3 ⟨rfl, hb3⟩
  go_wp2
  go_ret
  exact ⟨rfl, later HB2.out hb3⟩


set_option maxHeartbeats 800000 in
theorem law_faults (F : Interp) (q l : Int) (w : World) (hF : F.answers w.tape) (hq : -9223372036854775808 ≤ q) (h0 : 0 < q) (h1 : l < 0) :
    Calls Tryf.prog 4 #[.int .i64 q, .int .i64 l] w fun e w' => e = .returned (.bool true) ∧ Below w.heap.size w w' := by
  have HF : Hid (F.answers w.tape) := hF
  have HB0 : Hid (Below w.heap.size w w) := Below.refl _ _
  clear hF
  go_enter Tryf.func4, Tryf.ntmps4
  go_wp2_with fail
  refine (run_no F q l _ (answers_later HF.out HB0.out) (by omega) (by omega)).mono ?_
  rintro e w1 ⟨rfl, hb⟩
  have HB1 : Hid (Below w.heap.size w w1) := later HB0.out hb
  clear hb
  go_wp2_with fail
  refine (run_yes q 0 _ (by omega) (by omega)).mono ?_
  rintro e wy ⟨rfl, hwy⟩
  subst hwy
  go_wp2_with fail
  refine (run_no F 1 l _ (answers_later HF.out HB1.out) (by omega) (by omega)).mono ?_
  rintro e w2 ⟨rfl, hb⟩
  have HB2 : Hid (Below w.heap.size w w2) := later HB1.out hb
  clear hb
  go_wp2_with fail
  refine (run_yes 1 0 _ (by omega) (by omega)).mono ?_
  rintro e wy ⟨rfl, hwy⟩
  subst hwy
  go_wp2_with fail
  refine (run_no F 0 0 _ (answers_later HF.out HB2.out) (by omega) (by omega)).mono ?_
  rintro e w3 ⟨rfl, hb⟩
  have HB3 : Hid (Below w.heap.size w w3) := later HB2.out hb
  clear hb
  go_wp2_with fail
  refine (run_no F 1 (-1) _ (answers_later HF.out HB3.out) (by omega) (by omega)).mono ?_
  rintro e w4 ⟨rfl, hb⟩
  have HB4 : Hid (Below w.heap.size w w4) := later HB3.out hb
  clear hb
  go_wp2
  go_ret
  exact ⟨rfl, HB4.out⟩

set_option maxHeartbeats 800000 in
theorem law_pause (F : Interp) (q l : Int) (w : World) (hF : F.answers w.tape) (hq : -9223372036854775808 ≤ q) (h0 : q ≤ 0) (h1 : 0 ≤ l) :
    Calls Tryf.prog 4 #[.int .i64 q, .int .i64 l] w fun e w' => e = .returned (.bool true) ∧ Below w.heap.size w w' := by
  have HF : Hid (F.answers w.tape) := hF
  have HB0 : Hid (Below w.heap.size w w) := Below.refl _ _
  clear hF
  go_enter Tryf.func4, Tryf.ntmps4
  go_wp2_with fail
  refine (run_no F q l _ (answers_later HF.out HB0.out) (by omega) (by omega)).mono ?_
  rintro e w1 ⟨rfl, hb⟩
  have HB1 : Hid (Below w.heap.size w w1) := later HB0.out hb
  clear hb
  go_wp2_with fail
  refine (run_no F q 0 _ (answers_later HF.out HB1.out) (by omega) (by omega)).mono ?_
  rintro e w2 ⟨rfl, hb⟩
  have HB2 : Hid (Below w.heap.size w w2) := later HB1.out hb
  clear hb
  go_wp2_with fail
  refine (run_yes 1 l _ (by omega) (by omega)).mono ?_
  rintro e wy ⟨rfl, hwy⟩
  subst hwy
  go_wp2_with fail
  refine (run_yes 1 0 _ (by omega) (by omega)).mono ?_
  rintro e wy ⟨rfl, hwy⟩
  subst hwy
  go_wp2_with fail
  refine (run_no F 0 0 _ (answers_later HF.out HB2.out) (by omega) (by omega)).mono ?_
  rintro e w3 ⟨rfl, hb⟩
  have HB3 : Hid (Below w.heap.size w w3) := later HB2.out hb
  clear hb
  go_wp2_with fail
  refine (run_no F 1 (-1) _ (answers_later HF.out HB3.out) (by omega) (by omega)).mono ?_
  rintro e w4 ⟨rfl, hb⟩
  have HB4 : Hid (Below w.heap.size w w4) := later HB3.out hb
  clear hb
  go_wp2
  go_ret
  exact ⟨rfl, HB4.out⟩

set_option maxHeartbeats 800000 in
theorem law_both (F : Interp) (q l : Int) (w : World) (hF : F.answers w.tape) (hq : -9223372036854775808 ≤ q) (h0 : q ≤ 0) (h1 : l < 0) :
    Calls Tryf.prog 4 #[.int .i64 q, .int .i64 l] w fun e w' => e = .returned (.bool true) ∧ Below w.heap.size w w' := by
  have HF : Hid (F.answers w.tape) := hF
  have HB0 : Hid (Below w.heap.size w w) := Below.refl _ _
  clear hF
  go_enter Tryf.func4, Tryf.ntmps4
  go_wp2_with fail
  refine (run_no F q l _ (answers_later HF.out HB0.out) (by omega) (by omega)).mono ?_
  rintro e w1 ⟨rfl, hb⟩
  have HB1 : Hid (Below w.heap.size w w1) := later HB0.out hb
  clear hb
  go_wp2_with fail
  refine (run_no F q 0 _ (answers_later HF.out HB1.out) (by omega) (by omega)).mono ?_
  rintro e w2 ⟨rfl, hb⟩
  have HB2 : Hid (Below w.heap.size w w2) := later HB1.out hb
  clear hb
  go_wp2_with fail
  refine (run_no F 1 l _ (answers_later HF.out HB2.out) (by omega) (by omega)).mono ?_
  rintro e w3 ⟨rfl, hb⟩
  have HB3 : Hid (Below w.heap.size w w3) := later HB2.out hb
  clear hb
  go_wp2_with fail
  refine (run_yes 1 0 _ (by omega) (by omega)).mono ?_
  rintro e wy ⟨rfl, hwy⟩
  subst hwy
  go_wp2_with fail
  refine (run_no F 0 0 _ (answers_later HF.out HB3.out) (by omega) (by omega)).mono ?_
  rintro e w4 ⟨rfl, hb⟩
  have HB4 : Hid (Below w.heap.size w w4) := later HB3.out hb
  clear hb
  go_wp2_with fail
  refine (run_no F 1 (-1) _ (answers_later HF.out HB4.out) (by omega) (by omega)).mono ?_
  rintro e w5 ⟨rfl, hb⟩
  have HB5 : Hid (Below w.heap.size w w5) := later HB4.out hb
  clear hb
  go_wp2
  go_ret
  exact ⟨rfl, HB5.out⟩

/-- The law, at every two int64s. -/
theorem law_any (F : Interp) (q l : Int) (w : World) (hF : F.answers w.tape) (hq : -9223372036854775808 ≤ q) :
    Calls Tryf.prog 4 #[.int .i64 q, .int .i64 l] w fun e w' => e = .returned (.bool true) ∧ Below w.heap.size w w' := by
  by_cases h0 : 0 < q
  · by_cases h1 : 0 ≤ l
    · exact law_yes F q l w hF h0 h1
    · exact law_faults F q l w hF hq h0 (by omega)
  · by_cases h1 : 0 ≤ l
    · exact law_pause F q l w hF hq (by omega) h1
    · exact law_both F q l w hF hq (by omega) (by omega)

end Go.Proofs.Qxb6002352aFmt
