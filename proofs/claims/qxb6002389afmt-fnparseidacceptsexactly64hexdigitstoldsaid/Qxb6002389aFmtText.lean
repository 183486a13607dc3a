/-
  SEAT b6002389aF: THE WALKS OF zzHexVal (11), zzIsIDText (10) AND zzBytes_.. (9).
-/
import Derived.Test.Qxb6002389aFmtRows
import Derived.Test.Qxb6002389aFmtPlain
import Derived.WalkKit
import Derived.WalkSpells
namespace Go.Proofs.Qxb6002389aFmt
open Go.RowKit Go.Lib

theorem ret_two {a b : Int} {t : Bool} (h : a = b) : Ending.returned (.tuple #[.int .u8 a, .bool t]) = .returned (.tuple #[.int .u8 b, .bool t]) := by rw [h]

set_option maxHeartbeats 400000 in
theorem hexval_yes (c : UInt8) (w : World) (h : isHex c = true) :
    Calls Tryf.prog 11 #[.int .u8 (c.toNat : Int)] w fun e w' => e = .returned (.tuple #[.int .u8 (Hx.v c : Int), .bool true]) ∧ w' = w := by
  obtain ⟨r1, r2, r3, r4⟩ := hex_ranges c
  have hc := c.toNat_lt
  rcases r4.1 h with k | k | k
  · have e := r1 k
    have HE : Hid (Hx.v c = c.toNat - 48) := e
    clear e r1 r2 r3 r4 h
    obtain ⟨k1, k2⟩ := k
    go_enter Tryf.func11, Tryf.ntmps11
    go_wp2
    go_ret2
    exact ⟨ret_two (by have := HE.out; omega), rfl⟩
  · have e := r2 k
    have HE : Hid (Hx.v c = c.toNat - 97 + 10) := e
    clear e r1 r2 r3 r4 h
    obtain ⟨k1, k2⟩ := k
    go_enter Tryf.func11, Tryf.ntmps11
    go_wp2
    go_ret2
    exact ⟨ret_two (by have := HE.out; omega), rfl⟩
  · have e := r3 k
    have HE : Hid (Hx.v c = c.toNat - 65 + 10) := e
    clear e r1 r2 r3 r4 h
    obtain ⟨k1, k2⟩ := k
    go_enter Tryf.func11, Tryf.ntmps11
    go_wp2
    go_ret2
    exact ⟨ret_two (by have := HE.out; omega), rfl⟩

set_option maxHeartbeats 800000 in
theorem hexval_no (c : UInt8) (w : World) (h : isHex c = false) :
    Calls Tryf.prog 11 #[.int .u8 (c.toNat : Int)] w fun e w' => e = .returned (.tuple #[.int .u8 0, .bool false]) ∧ w' = w := by
  obtain ⟨r1, r2, r3, r4⟩ := hex_ranges c
  have hc := c.toNat_lt
  have hn : ¬ ((48 ≤ c.toNat ∧ c.toNat ≤ 57) ∨ (97 ≤ c.toNat ∧ c.toNat ≤ 102) ∨ (65 ≤ c.toNat ∧ c.toNat ≤ 70)) := fun k => by rw [r4.2 k] at h; cases h
  have HN : Hid (¬ ((48 ≤ c.toNat ∧ c.toNat ≤ 57) ∨ (97 ≤ c.toNat ∧ c.toNat ≤ 102) ∨ (65 ≤ c.toNat ∧ c.toNat ≤ 70))) := hn
  clear r1 r2 r3 r4 h hn
  go_enter Tryf.func11, Tryf.ntmps11
  go_wp2
  all_goals (first | (exfalso; have := HN.out; omega) | (go_ret2; exact ⟨rfl, rfl⟩))

set_option maxHeartbeats 400000 in
theorem zz_yes (s : ByteArray) (w : World) (h : s.size ≤ 1048576) :
    Calls Tryf.prog 9 #[.string s] w fun e w' => e = .returned (.bool true) ∧ w' = w := by
  go_enter Tryf.func9, Tryf.ntmps9
  go_wp2
  go_ret
  exact ⟨rfl, rfl⟩

set_option maxHeartbeats 400000 in
theorem zz_no (s : ByteArray) (w : World) (hl : s.size ≤ maxLen) (h : ¬ s.size ≤ 1048576) :
    Calls Tryf.prog 9 #[.string s] w fun e w' => e = .returned (.bool false) ∧ w' = w := by
  unfold maxLen at hl
  go_enter Tryf.func9, Tryf.ntmps9
  go_wp2
  go_ret
  exact ⟨rfl, rfl⟩

theorem take_snoc (s : ByteArray) (k : Nat) (h : k < s.size) : s.data.toList.take (k + 1) = s.data.toList.take k ++ [s[k]] := by
  rw [List.take_succ_eq_append_getElem (by simpa using h)]; rfl

theorem allHex_at {l : List UInt8} (h : allHex l = true) {c : UInt8} (hc : c ∈ l) : isHex c = true := List.all_eq_true.1 h c hc

set_option maxHeartbeats 400000 in
theorem istext_len (s : ByteArray) (w : World) (h : ((s.size : Int) != 64) = true) :
    Calls Tryf.prog 10 #[.string s] w fun e w' => e = .returned (.bool false) ∧ w' = w := by
  go_enter Tryf.func10, Tryf.ntmps10
  go_wp2
  go_ret
  exact ⟨rfl, rfl⟩

theorem allHex_snoc (l : List UInt8) (c : UInt8) : allHex (l ++ [c]) = (allHex l && isHex c) := by simp [allHex]

theorem allHex_take_no {l : List UInt8} {k : Nat} {c : UInt8} (hc : l[k]? = some c) (h : isHex c = false) : allHex l = false := by
  cases e : allHex l with
  | false => rfl
  | true =>
    have := allHex_at e (List.mem_of_getElem? hc)
    rw [h] at this
    cases this

theorem ret_bool {a b : Bool} (h : a = b) : Ending.returned (.bool a) = .returned (.bool b) := by rw [h]

set_option maxHeartbeats 400000 in
/-- zzIsIDText at 64 bytes: are all of them hexadecimal digits? -/
theorem istext_64 (s : ByteArray) (w : World) (h : s.size = 64) :
    Calls Tryf.prog 10 #[.string s] w fun e w' => e = .returned (.bool (allHex s.data.toList)) ∧ w' = w := by
  have hne : ((s.size : Int) != 64) = false := by rw [h]; rfl
  have hlen : s.data.toList.length = 64 := by simpa using h
  have HL : Hid (s.data.toList.length = 64) := hlen
  clear hlen
  go_enter Tryf.func10, Tryf.ntmps10
  go_wp2
  go_loop [3] (fun i => ∃ k : Nat, k ≤ 64 ∧ i = .int .i64 k ∧ Hid (allHex (s.data.toList.take k) = true)) (fun i => 64 - (intOf i).toNat)
  case atStart => exact ⟨0, Nat.zero_le _, rfl, rfl⟩
  case round =>
    obtain ⟨k, hk, rfl, hx⟩ := hrel
    by_cases hlt : k < 64
    · have hks : k < s.size := by omega
      have HC : Hid (s.data.toList[k]? = some (s[k]'hks)) := by
        show s.data.toList[k]? = _
        rw [List.getElem?_eq_getElem (by simpa using hks)]; rfl
      have HT : Hid (s.data.toList.take (k + 1) = s.data.toList.take k ++ [s[k]'hks]) := take_snoc s k hks
      obtain ⟨c, hc⟩ : ∃ c, c = s[k]'hks := ⟨_, rfl⟩
      cases hb : isHex c with
      | true =>
        have hv := hexval_yes c w hb
        have HB : Hid (isHex c = true) := hb
        clear hb
        rw [hc] at hv
        go_wp2_with fail
        refine hv.mono ?_
        clear hv
        rintro e w' ⟨rfl, rfl⟩
        go_wp2
        go_round
        case rel => exact ⟨k + 1, by omega, by go_num, by show allHex _ = true; rw [HT.out, allHex_snoc, hx.out, ← hc, HB.out]; rfl⟩
        case measure => simp [intOf]; omega
      | false =>
        have hv := hexval_no c w hb
        have HB : Hid (allHex s.data.toList = false) := allHex_take_no HC.out (by rw [← hc]; exact hb)
        clear hb
        rw [hc] at hv
        go_wp2_with fail
        refine hv.mono ?_
        clear hv
        rintro e w' ⟨rfl, rfl⟩
        go_wp2
        go_ret
        exact ⟨ret_bool HB.out.symm, rfl⟩
    · have HB : Hid (allHex s.data.toList = true) := by
        have := hx.out
        rwa [List.take_of_length_le (by have := HL.out; omega)] at this
      clear hx
      go_wp2
      go_ret
      exact ⟨ret_bool HB.out.symm, rfl⟩

end Go.Proofs.Qxb6002389aFmt
