/-
  SEAT b6001510a: THE SHARED WALKS: fillSlot (function 8) and its front ZZfillSlot (6): the statement that they return is 'pre ++ by ++ mid ++ until ++ post', three constants of the Go text; the world stays as it was.
-/
import Derived.Test.Qxb6001510aRows
import Derived.WalkKit
import Derived.ProofKit
namespace Go.Proofs.Qxb6001510a
open Go.ChangeShapes Go.WideShapes Go.ChangeAt Go.RowKit

/-- The three constant pieces of the Go text (outbox.go, fillSlot). -/
def pre : ByteArray := ⟨#[73, 78, 83, 69, 82, 84, 32, 73, 78, 84, 79, 32, 99, 111, 109, 109, 105, 116, 112, 111, 105, 110, 116, 95, 98, 97, 116, 99, 104, 32, 65, 83, 32, 98,
  32, 40, 115, 108, 111, 116, 44, 32, 105, 100, 115, 44, 32, 115, 101, 113, 115, 44, 32, 99, 108, 97, 105, 109, 101, 100, 95, 98, 121, 44, 32, 99,
  108, 97, 105, 109, 101, 100, 95, 117, 110, 116, 105, 108, 41, 10, 9, 9, 83, 69, 76, 69, 67, 84, 32, 99, 111, 97, 108, 101, 115, 99, 101, 40, 40, 83,
  69, 76, 69, 67, 84, 32, 109, 105, 110, 40, 115, 108, 111, 116, 41, 32, 70, 82, 79, 77, 32, 99, 111, 109, 109, 105, 116, 112, 111, 105, 110, 116, 95,
  98, 97, 116, 99, 104, 32, 87, 72, 69, 82, 69, 32, 99, 97, 114, 100, 105, 110, 97, 108, 105, 116, 121, 40, 105, 100, 115, 41, 32, 61, 32, 48, 41, 44,
  10, 9, 9, 9, 9, 40, 83, 69, 76, 69, 67, 84, 32, 99, 111, 97, 108, 101, 115, 99, 101, 40, 109, 97, 120, 40, 115, 108, 111, 116, 41, 44, 32, 48, 41,
  32, 43, 32, 49, 32, 70, 82, 79, 77, 32, 99, 111, 109, 109, 105, 116, 112, 111, 105, 110, 116, 95, 98, 97, 116, 99, 104, 41, 41, 44, 10, 9, 9, 9, 97,
  114, 114, 97, 121, 95, 97, 103, 103, 40, 105, 100, 32, 79, 82, 68, 69, 82, 32, 66, 89, 32, 105, 100, 41, 44, 32, 97, 114, 114, 97, 121, 95, 97, 103,
  103, 40, 115, 101, 113, 32, 79, 82, 68, 69, 82, 32, 66, 89, 32, 105, 100, 41, 44, 32]⟩
def mid : ByteArray := ⟨#[44, 32]⟩
def post : ByteArray := ⟨#[10, 9, 9, 70, 82, 79, 77, 32, 101, 110, 116, 114, 105, 101, 115, 10, 9, 9, 72, 65, 86, 73, 78, 71, 32, 99, 111, 117, 110, 116, 40, 42, 41, 32, 62,
  32, 48, 10, 9, 9, 79, 78, 32, 67, 79, 78, 70, 76, 73, 67, 84, 32, 40, 115, 108, 111, 116, 41, 32, 68, 79, 32, 85, 80, 68, 65, 84, 69, 32, 83, 69,
  84, 32, 105, 100, 115, 32, 61, 32, 101, 120, 99, 108, 117, 100, 101, 100, 46, 105, 100, 115, 44, 32, 115, 101, 113, 115, 32, 61, 32, 101, 120, 99,
  108, 117, 100, 101, 100, 46, 115, 101, 113, 115, 44, 10, 9, 9, 9, 99, 108, 97, 105, 109, 101, 100, 95, 98, 121, 32, 61, 32, 101, 120, 99, 108, 117,
  100, 101, 100, 46, 99, 108, 97, 105, 109, 101, 100, 95, 98, 121, 44, 32, 99, 108, 97, 105, 109, 101, 100, 95, 117, 110, 116, 105, 108, 32, 61, 32,
  101, 120, 99, 108, 117, 100, 101, 100, 46, 99, 108, 97, 105, 109, 101, 100, 95, 117, 110, 116, 105, 108, 10, 9, 9, 82, 69, 84, 85, 82, 78, 73, 78,
  71, 32, 98, 46, 115, 108, 111, 116]⟩

set_option maxRecDepth 100000 in
set_option maxHeartbeats 400000 in
theorem fill8 (a b : ByteArray) (w : World) (ha : a.size ≤ 1048576) (hb : b.size ≤ 1048576) :
    Calls Try.prog 8 #[.string a, .string b] w fun e w' => e = .returned (.string (pre ++ a ++ mid ++ b ++ post)) ∧ w' = w := by
  go_enter Try.func8, Try.ntmps8
  go_wp2
  go_ret
  exact ⟨rfl, rfl⟩

set_option maxRecDepth 100000 in
set_option maxHeartbeats 400000 in
theorem fill6 (a b : ByteArray) (w : World) (ha : a.size ≤ 1048576) (hb : b.size ≤ 1048576) :
    Calls Try.prog 6 #[.string a, .string b] w fun e w' => e = .returned (.string (pre ++ a ++ mid ++ b ++ post)) ∧ w' = w := by
  go_enter Try.func6, Try.ntmps6
  go_wp2_with (go_at_call 8; refine (fill8 a b _ ha hb).mono ?_; rintro e w' ⟨rfl, rfl⟩)
  go_ret
  exact ⟨rfl, rfl⟩

/-- What the laws use: SOME three pieces, each short; the same for every pair of arguments. -/
theorem fill : ∃ p m q : ByteArray, p.size ≤ 1000 ∧ m.size ≤ 1000 ∧ q.size ≤ 1000 ∧ ∀ (a b : ByteArray) (w : World), a.size ≤ 1048576 → b.size ≤ 1048576 →
    Calls Try.prog 6 #[.string a, .string b] w fun e w' => e = .returned (.string (p ++ a ++ m ++ b ++ q)) ∧ w' = w :=
  ⟨pre, mid, post, by decide +kernel, by decide +kernel, by decide +kernel, fill6⟩

/-! ### The two guards on the lengths -/

set_option maxHeartbeats 400000 in
theorem zz7_yes (a b : ByteArray) (w : World) (h0 : a.size ≤ 1048576) (h1 : b.size ≤ 1048576) (h2 : a.size + b.size ≤ 1048576) :
    Calls Try.prog 7 #[.string a, .string b] w fun e w' => e = .returned (.bool true) ∧ w' = w := by
  go_enter Try.func7, Try.ntmps7
  go_wp2
  go_ret
  exact ⟨rfl, rfl⟩

set_option maxHeartbeats 400000 in
theorem zz7_no (a b : ByteArray) (w : World) (k0 : a.size ≤ maxLen) (k1 : b.size ≤ maxLen) (h : ¬ (a.size ≤ 1048576 ∧ b.size ≤ 1048576 ∧ a.size + b.size ≤ 1048576)) :
    Calls Try.prog 7 #[.string a, .string b] w fun e w' => e = .returned (.bool false) ∧ w' = w := by
  unfold maxLen at k0 k1
  by_cases h0 : a.size ≤ 1048576
  · by_cases h1 : b.size ≤ 1048576
    · have h2 : ¬ a.size + b.size ≤ 1048576 := fun h2 => h ⟨h0, h1, h2⟩
      clear h
      go_enter Try.func7, Try.ntmps7
      go_wp2
      go_ret
      exact ⟨rfl, rfl⟩
    · clear h
      go_enter Try.func7, Try.ntmps7
      go_wp2
      go_ret
      exact ⟨rfl, rfl⟩
  · clear h
    go_enter Try.func7, Try.ntmps7
    go_wp2
    go_ret
    exact ⟨rfl, rfl⟩

set_option maxHeartbeats 400000 in
theorem zz5_yes (a b c : ByteArray) (w : World) (h0 : a.size ≤ 1048576) (h1 : b.size ≤ 1048576) (h2 : a.size + b.size ≤ 1048576) (h3 : c.size ≤ 1048576) (h4 : a.size + b.size + c.size ≤ 1048576) :
    Calls Try.prog 5 #[.string a, .string b, .string c] w fun e w' => e = .returned (.bool true) ∧ w' = w := by
  go_enter Try.func5, Try.ntmps5
  go_wp2
  go_ret
  exact ⟨rfl, rfl⟩

set_option maxHeartbeats 400000 in
theorem zz5_no (a b c : ByteArray) (w : World) (k0 : a.size ≤ maxLen) (k1 : b.size ≤ maxLen) (k2 : c.size ≤ maxLen)
    (h : ¬ (a.size ≤ 1048576 ∧ b.size ≤ 1048576 ∧ c.size ≤ 1048576 ∧ a.size + b.size + c.size ≤ 1048576)) :
    Calls Try.prog 5 #[.string a, .string b, .string c] w fun e w' => e = .returned (.bool false) ∧ w' = w := by
  unfold maxLen at k0 k1 k2
  by_cases h0 : a.size ≤ 1048576
  · by_cases h1 : b.size ≤ 1048576
    · by_cases h2 : a.size + b.size ≤ 1048576
      · by_cases h3 : c.size ≤ 1048576
        · have h4 : ¬ a.size + b.size + c.size ≤ 1048576 := fun h4 => h ⟨h0, h1, h3, h4⟩
          clear h
          go_enter Try.func5, Try.ntmps5
          go_wp2
          go_ret
          exact ⟨rfl, rfl⟩
        · clear h
          go_enter Try.func5, Try.ntmps5
          go_wp2
          go_ret
          exact ⟨rfl, rfl⟩
      · clear h
        go_enter Try.func5, Try.ntmps5
        go_wp2
        go_ret
        exact ⟨rfl, rfl⟩
    · clear h
      go_enter Try.func5, Try.ntmps5
      go_wp2
      go_ret
      exact ⟨rfl, rfl⟩
  · clear h
    go_enter Try.func5, Try.ntmps5
    go_wp2
    go_ret
    exact ⟨rfl, rfl⟩

end Go.Proofs.Qxb6001510a
