/-
  SEAT b6001053aD: THE SHARED WALK: '(ObjectType).String' (function 5): at a byte b it returns 'nameOf b'; what lay in memory is as it was.
-/
import Derived.Test.Qxb6001053aDoorRows
import Derived.Test.Qxb6001053aDoorShelf
import Derived.WalkKit
import Derived.ProofKit
namespace Go.Proofs.Qxb6001053aDoor
open Go.ChangeShapes Go.WideShapes Go.ChangeAt Go.RowKit Go.Sort

/-- The library's table of powers of ten, by its name in the given row. -/
def powName : String := Rows.fnObjectTypeStringParsesBackRow.named.headD ""

/-- strconv.Itoa at this dump: the shelf's contract. -/
theorem itoa_at (n : Int) (h0 : -9223372036854775808 ≤ n) (h1 : n ≤ 9223372036854775807) (w : World) (htab : Lib.TabIs Tryd.prog w powName .u64 Lib.pow10Tab) :
    Calls Tryd.prog 7 #[.int .i64 n] w fun e w' => e = .returned (.string ⟨(Lib.itoa n).toArray⟩) ∧ ∃ k os, w' = grow (w.drewN k) os :=
  Any.strconv_Itoa Tryd.laysM171 n h0 h1 w htab

/-- The name that ObjectType.String gives the byte b. -/
def nameOf (b : Nat) : List UInt8 :=
  if b = 1 then [99, 111, 109, 109, 105, 116] else if b = 2 then [116, 114, 101, 101] else if b = 3 then [98, 108, 111, 98] else if b = 4 then [116, 97, 103]
  else if b = 6 then [111, 102, 115, 45, 100, 101, 108, 116, 97] else if b = 7 then [114, 101, 102, 45, 100, 101, 108, 116, 97]
  else [79, 98, 106, 101, 99, 116, 84, 121, 112, 101, 40] ++ Lib.itoa b ++ [41]

theorem itoa_len (b : Nat) (h : b < 256) : 1 ≤ (Lib.itoa b).length ∧ (Lib.itoa b).length ≤ 3 := by
  have k : ∀ n : Fin 256, 1 ≤ (Lib.itoa (n.val : Nat)).length ∧ (Lib.itoa (n.val : Nat)).length ≤ 3 := by decide +kernel
  exact k ⟨b, h⟩

theorem below_grow (w : World) (k : Nat) (os : Array Obj) : Below w.heap.size w (grow (w.drewN k) os) :=
  ⟨rfl, rfl, rfl, by show w.heap.size ≤ (w.heap ++ os).size; simp, fun i hi => by show (w.heap ++ os)[i]? = _; rw [Array.getElem?_append, if_pos hi]⟩

theorem name_other (b : Nat) (n1 : b ≠ 1) (n2 : b ≠ 2) (n3 : b ≠ 3) (n4 : b ≠ 4) (n6 : b ≠ 6) (n7 : b ≠ 7) :
    (⟨#[79, 98, 106, 101, 99, 116, 84, 121, 112, 101, 40]⟩ ++ ⟨(Lib.itoa b).toArray⟩ ++ ⟨#[41]⟩ : ByteArray) = ⟨(nameOf b).toArray⟩ := by
  apply bytes_inj
  simp [nameOf, n1, n2, n3, n4, n6, n7]

theorem ret_str {a b : ByteArray} (h : a = b) : Ending.returned (.string a) = .returned (.string b) := by rw [h]

set_option maxHeartbeats 400000 in
theorem string_other (b : Nat) (h : b < 256) (w : World) (n1 : b ≠ 1) (n2 : b ≠ 2) (n3 : b ≠ 3) (n4 : b ≠ 4) (n6 : b ≠ 6) (n7 : b ≠ 7)
    (htab : Lib.TabIs Tryd.prog w powName .u64 Lib.pow10Tab) :
    Calls Tryd.prog 5 #[.int .u8 b] w fun e w' => e = .returned (.string ⟨(nameOf b).toArray⟩) ∧ Below w.heap.size w w' := by
  have hl := itoa_len b h
  go_enter Tryd.func5, Tryd.ntmps5
  go_wp2_with (go_at_call 7; refine (itoa_at (b : Int) (by omega) (by omega) _ htab).mono ?_; rintro e w' ⟨rfl, k, os, rfl⟩)
  go_ret
  exact ⟨ret_str (name_other b n1 n2 n3 n4 n6 n7), below_grow w _ _⟩

set_option maxHeartbeats 400000 in
theorem string_1 (w : World) : Calls Tryd.prog 5 #[.int .u8 1] w fun e w' => e = .returned (.string ⟨(nameOf 1).toArray⟩) ∧ Below w.heap.size w w' := by
  go_enter Tryd.func5, Tryd.ntmps5
  go_wp2
  go_ret
  exact ⟨rfl, Below.refl _ _⟩
set_option maxHeartbeats 400000 in
theorem string_2 (w : World) : Calls Tryd.prog 5 #[.int .u8 2] w fun e w' => e = .returned (.string ⟨(nameOf 2).toArray⟩) ∧ Below w.heap.size w w' := by
  go_enter Tryd.func5, Tryd.ntmps5
  go_wp2
  go_ret
  exact ⟨rfl, Below.refl _ _⟩
set_option maxHeartbeats 400000 in
theorem string_3 (w : World) : Calls Tryd.prog 5 #[.int .u8 3] w fun e w' => e = .returned (.string ⟨(nameOf 3).toArray⟩) ∧ Below w.heap.size w w' := by
  go_enter Tryd.func5, Tryd.ntmps5
  go_wp2
  go_ret
  exact ⟨rfl, Below.refl _ _⟩
set_option maxHeartbeats 400000 in
theorem string_4 (w : World) : Calls Tryd.prog 5 #[.int .u8 4] w fun e w' => e = .returned (.string ⟨(nameOf 4).toArray⟩) ∧ Below w.heap.size w w' := by
  go_enter Tryd.func5, Tryd.ntmps5
  go_wp2
  go_ret
  exact ⟨rfl, Below.refl _ _⟩
set_option maxHeartbeats 400000 in
theorem string_6 (w : World) : Calls Tryd.prog 5 #[.int .u8 6] w fun e w' => e = .returned (.string ⟨(nameOf 6).toArray⟩) ∧ Below w.heap.size w w' := by
  go_enter Tryd.func5, Tryd.ntmps5
  go_wp2
  go_ret
  exact ⟨rfl, Below.refl _ _⟩
set_option maxHeartbeats 400000 in
theorem string_7 (w : World) : Calls Tryd.prog 5 #[.int .u8 7] w fun e w' => e = .returned (.string ⟨(nameOf 7).toArray⟩) ∧ Below w.heap.size w w' := by
  go_enter Tryd.func5, Tryd.ntmps5
  go_wp2
  go_ret
  exact ⟨rfl, Below.refl _ _⟩

/-- String at every byte. -/
theorem string_any (b : Nat) (h : b < 256) (w : World) (htab : Lib.TabIs Tryd.prog w powName .u64 Lib.pow10Tab) :
    Calls Tryd.prog 5 #[.int .u8 b] w fun e w' => e = .returned (.string ⟨(nameOf b).toArray⟩) ∧ Below w.heap.size w w' := by
  by_cases n1 : b = 1
  · subst n1; exact string_1 w
  by_cases n2 : b = 2
  · subst n2; exact string_2 w
  by_cases n3 : b = 3
  · subst n3; exact string_3 w
  by_cases n4 : b = 4
  · subst n4; exact string_4 w
  by_cases n6 : b = 6
  · subst n6; exact string_6 w
  by_cases n7 : b = 7
  · subst n7; exact string_7 w
  exact string_other b h w n1 n2 n3 n4 n6 n7 htab
end Go.Proofs.Qxb6001053aDoor
