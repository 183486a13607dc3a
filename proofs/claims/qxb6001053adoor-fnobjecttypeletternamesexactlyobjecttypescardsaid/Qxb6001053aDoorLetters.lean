/-
  SEAT b6001053aD: THE WALK OF 'FnObjectTypeLetterNamesExactlyObjectTypes' (function 4): it returns true; what lay in memory is as it was.
-/
import Derived.Test.Qxb6001053aDoorWalks
namespace Go.Proofs.Qxb6001053aDoor
open Go.ChangeShapes Go.WideShapes Go.ChangeAt Go.RowKit Go.Sort

/-! ### The plain law -/

def low (l : List UInt8) : Bool := l.all fun c => 97 ≤ c && c ≤ 122

theorem low_snoc (l : List UInt8) (c : UInt8) : low (l ++ [c]) = (low l && decide (97 ≤ (c.toNat : Int) ∧ (c.toNat : Int) ≤ 122)) := by
  have e : (97 ≤ c && c ≤ 122) = decide (97 ≤ (c.toNat : Int) ∧ (c.toNat : Int) ≤ 122) := by
    rw [Bool.eq_iff_iff]; simp [UInt8.le_iff_toNat_le]; omega
  simp [low, e]

theorem take_snoc (s : ByteArray) (k : Nat) (h : k < s.size) : s.data.toList.take (k + 1) = s.data.toList.take k ++ [s[k]] := by
  rw [List.take_succ_eq_append_getElem (by simpa using h)]; rfl

theorem names (b : Nat) (h : b < 256) : (low (nameOf b) && decide (0 < (nameOf b).length)) = (decide (1 ≤ b) && decide (b ≤ 4)) ∧ 0 < (nameOf b).length ∧ (nameOf b).length ≤ 15 := by
  have k : ∀ n : Fin 256, (low (nameOf n.val) && decide (0 < (nameOf n.val).length)) = (decide (1 ≤ n.val) && decide (n.val ≤ 4)) ∧ 0 < (nameOf n.val).length ∧ (nameOf n.val).length ≤ 15 := by decide +kernel
  exact k ⟨b, h⟩

theorem step_yes {t t' : Bool} {c : Int} (h : t' = (t && decide (97 ≤ c ∧ c ≤ 122))) (k : 97 ≤ c ∧ c ≤ 122) : Value.bool t = Value.bool t' := by
  rw [h, decide_eq_true k, Bool.and_true]
theorem step_no {t t' : Bool} {c : Int} (h : t' = (t && decide (97 ≤ c ∧ c ≤ 122))) (k : ¬ (97 ≤ c ∧ c ≤ 122)) : Value.bool false = Value.bool t' := by
  rw [h, decide_eq_false k, Bool.and_false]
theorem ret_bool {a b : Bool} (h : a = b) : Ending.returned (.bool a) = .returned (.bool b) := by rw [h]
theorem last_yes {t : Bool} {b : Nat} (h : t = (decide (1 ≤ b) && decide (b ≤ 4))) (k : 1 ≤ b) : (t == decide ((b : Int) ≤ 4)) = true := by
  rw [h, decide_eq_true k, Bool.true_and, beq_iff_eq]
  by_cases c : b ≤ 4
  · rw [decide_eq_true c, decide_eq_true (by omega)]
  · rw [decide_eq_false c, decide_eq_false (by omega)]
theorem last_no {t : Bool} {b : Nat} (h : t = (decide (1 ≤ b) && decide (b ≤ 4))) (k : ¬ 1 ≤ b) : (!t) = true := by
  rw [h, decide_eq_false k]; rfl

set_option maxHeartbeats 400000 in
/-- The loop and the last line, for whatever string the call of String has given. -/
theorem letters_walk (b : Nat) (h : b < 256) (w : World) (htab : Lib.TabIs Tryd.prog w powName .u64 Lib.pow10Tab) :
    Calls Tryd.prog 4 #[.int .u8 b] w fun e w' => e = .returned (.bool true) ∧ Below w.heap.size w w' := by
  have hn := names b h
  have hst := string_any b h w htab
  clear htab
  obtain ⟨s, hs⟩ : ∃ s : ByteArray, s = ⟨(nameOf b).toArray⟩ := ⟨_, rfl⟩
  rw [← hs] at hst
  have hsz : 0 < s.size ∧ s.size ≤ 15 := by subst hs; simpa [ByteArray.size] using hn.2
  have hlo : Hid (low s.data.toList = (decide (1 ≤ b) && decide (b ≤ 4))) := by
    have := hn.1
    rw [decide_eq_true hn.2.1, Bool.and_true] at this
    subst hs
    exact this
  clear hn hs
  go_enter Tryd.func4, Tryd.ntmps4
  go_wp2_with fail
  refine hst.mono ?_
  clear hst
  rintro e w' ⟨rfl, hb⟩
  go_wp2
  go_loop [4, 5] (fun t i => ∃ k : Nat, k ≤ s.size ∧ i = .int .i64 k ∧ t = .bool (low (s.data.toList.take k))) (fun _ i => s.size - (intOf i).toNat)
  case atStart => exact ⟨0, Nat.zero_le _, rfl, by first | rfl | simp [low, hsz.1]⟩
  case round =>
    obtain ⟨k, hk, rfl, rfl⟩ := hrel
    by_cases hlt : k < s.size
    · have HS : Hid (low (s.data.toList.take (k + 1)) = (low (s.data.toList.take k) && decide (97 ≤ (s[k].toNat : Int) ∧ (s[k].toNat : Int) ≤ 122))) := by
        rw [take_snoc s k hlt]; exact low_snoc _ _
      go_wp2
      all_goals
        go_round
        case rel => exact ⟨k + 1, by omega, by go_num, by first | exact step_yes HS.out ⟨by omega, by omega⟩ | exact step_no HS.out (by omega)⟩
        case measure => simp [intOf]; omega
    · have HL : Hid (low (s.data.toList.take k) = (decide (1 ≤ b) && decide (b ≤ 4))) := by
        rw [List.take_of_length_le (by simp; omega)]; exact hlo
      clear hlo
      by_cases c1 : 1 ≤ b
      · go_wp2
        go_ret
        exact ⟨ret_bool (last_yes HL.out c1), hb⟩
      · go_wp2
        go_ret
        exact ⟨ret_bool (last_no HL.out c1), hb⟩

end Go.Proofs.Qxb6001053aDoor
