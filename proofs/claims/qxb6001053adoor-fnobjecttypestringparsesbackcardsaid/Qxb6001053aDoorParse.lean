/-
  SEAT b6001053aD: THE WALK OF 'FnObjectTypeStringParsesBack' (function 3) AND OF 'b1ParseTypeName' (function 6): a name that String gives reads back to its byte.
-/
import Derived.Test.Qxb6001053aDoorWalks
import Derived.WalkSpells
namespace Go.Proofs.Qxb6001053aDoor
open Go.ChangeShapes Go.WideShapes Go.ChangeAt Go.RowKit Go.Sort

def val (l : List UInt8) : Int := l.foldl (fun v c => v * 10 + ((c.toNat : Int) - 48)) 0
theorem val_snoc (l : List UInt8) (c : UInt8) : val (l ++ [c]) = val l * 10 + ((c.toNat : Int) - 48) := by simp [val]
theorem take_snoc' (s : ByteArray) (k : Nat) (h : k < s.size) : s.data.toList.take (k + 1) = s.data.toList.take k ++ [s[k]] := by
  rw [List.take_succ_eq_append_getElem (by simpa using h)]; rfl

theorem ret_val {a b : Int} (h : a = b) : Ending.returned (.tuple #[.int .i64 a, .bool true]) = .returned (.tuple #[.int .i64 b, .bool true]) := by rw [h]

set_option maxHeartbeats 400000 in
theorem parse_other (s D : ByteArray) (n : Nat) (w : World) (h1 : 1 ≤ n) (h2 : n ≤ 3) (h3 : s.size = n + 12) (h4 : D.size = n)
    (e1 : (s.toList == [99, 111, 109, 109, 105, 116]) = false) (e2 : (s.toList == [116, 114, 101, 101]) = false) (e3 : (s.toList == [98, 108, 111, 98]) = false)
    (e4 : (s.toList == [116, 97, 103]) = false) (e6 : (s.toList == [111, 102, 115, 45, 100, 101, 108, 116, 97]) = false) (e7 : (s.toList == [114, 101, 102, 45, 100, 101, 108, 116, 97]) = false)
    (hpre : s.extract 0 11 = ⟨#[79, 98, 106, 101, 99, 116, 84, 121, 112, 101, 40]⟩) (hlast : ∀ h : n + 11 < s.size, (((s[n + 11]'h).toNat : Int) != 41) = false)
    (hD : s.extract 11 (n + 11) = D) (h0 : 1 < n → ∀ h : 0 < D.size, (((D[0]'h).toNat : Int) == 48) = false)
    (hdig : ∀ k (h : k < D.size), 48 ≤ ((D[k]'h).toNat : Int) ∧ ((D[k]'h).toNat : Int) ≤ 57) (hval : ∀ k, 0 ≤ val (D.data.toList.take k) ∧ val (D.data.toList.take k) ≤ 255) :
    Calls Tryd.prog 6 #[.string s] w fun e w' => e = .returned (.tuple #[.int .i64 (val D.data.toList), .bool true]) ∧ w' = w := by
  have hz : ((n : Int) == 0) = false := by rw [beq_eq_false_iff_ne]; omega
  have HV : Hid (∀ k, 0 ≤ val (D.data.toList.take k) ∧ val (D.data.toList.take k) ≤ 255) := hval
  have HD : Hid (∀ k (h : k < D.size), 48 ≤ ((D[k]'h).toNat : Int) ∧ ((D[k]'h).toNat : Int) ≤ 57) := hdig
  clear hval hdig
  by_cases hn : 1 < n
  · have h0' := h0 hn
    clear h0
    go_enter Tryd.func6, Tryd.ntmps6
    go_wp2
    go_loop [5, 6] (fun v i => ∃ k : Nat, k ≤ n ∧ i = .int .i64 k ∧ v = .int .i64 (val (D.data.toList.take k))) (fun _ i => n - (intOf i).toNat)
    case atStart => exact ⟨0, Nat.zero_le _, rfl, rfl⟩
    case round =>
      obtain ⟨k, hk, rfl, rfl⟩ := hrel
      have hv := HV.out k
      by_cases hlt : k < n
      · have hd := HD.out k (by omega)
        have HS : Hid (val (D.data.toList.take (k + 1)) = val (D.data.toList.take k) * 10 + ((D[k].toNat : Int) - 48)) := by
          rw [take_snoc' D k (by omega)]; exact val_snoc _ _
        go_wp2
        go_round
        case rel => exact ⟨k + 1, by omega, by go_num, by rw [HS.out]⟩
        case measure => simp [intOf]; omega
      · have HT : Hid (D.data.toList.take k = D.data.toList) := List.take_of_length_le (by simp; omega)
        go_wp2
        go_ret2
        exact ⟨ret_val (congrArg val HT.out), rfl⟩
  · clear h0
    go_enter Tryd.func6, Tryd.ntmps6
    go_wp2
    go_loop [5, 6] (fun v i => ∃ k : Nat, k ≤ n ∧ i = .int .i64 k ∧ v = .int .i64 (val (D.data.toList.take k))) (fun _ i => n - (intOf i).toNat)
    case atStart => exact ⟨0, Nat.zero_le _, rfl, rfl⟩
    case round =>
      obtain ⟨k, hk, rfl, rfl⟩ := hrel
      have hv := HV.out k
      by_cases hlt : k < n
      · have hd := HD.out k (by omega)
        have HS : Hid (val (D.data.toList.take (k + 1)) = val (D.data.toList.take k) * 10 + ((D[k].toNat : Int) - 48)) := by
          rw [take_snoc' D k (by omega)]; exact val_snoc _ _
        go_wp2
        go_round
        case rel => exact ⟨k + 1, by omega, by go_num, by rw [HS.out]⟩
        case measure => simp [intOf]; omega
      · have HT : Hid (D.data.toList.take k = D.data.toList) := List.take_of_length_le (by simp; omega)
        go_wp2
        go_ret2
        exact ⟨ret_val (congrArg val HT.out), rfl⟩

/-! ### The names that are plain words -/

set_option maxHeartbeats 400000 in
theorem parse_1 (w : World) : Calls Tryd.prog 6 #[.string ⟨#[99, 111, 109, 109, 105, 116]⟩] w fun e w' => e = .returned (.tuple #[.int .i64 1, .bool true]) ∧ w' = w := by
  go_enter Tryd.func6, Tryd.ntmps6
  go_wp2
  go_ret2
  exact ⟨rfl, rfl⟩

set_option maxHeartbeats 400000 in
theorem parse_2 (w : World) : Calls Tryd.prog 6 #[.string ⟨#[116, 114, 101, 101]⟩] w fun e w' => e = .returned (.tuple #[.int .i64 2, .bool true]) ∧ w' = w := by
  go_enter Tryd.func6, Tryd.ntmps6
  go_wp2
  go_ret2
  exact ⟨rfl, rfl⟩

set_option maxHeartbeats 400000 in
theorem parse_3 (w : World) : Calls Tryd.prog 6 #[.string ⟨#[98, 108, 111, 98]⟩] w fun e w' => e = .returned (.tuple #[.int .i64 3, .bool true]) ∧ w' = w := by
  go_enter Tryd.func6, Tryd.ntmps6
  go_wp2
  go_ret2
  exact ⟨rfl, rfl⟩

set_option maxHeartbeats 400000 in
theorem parse_4 (w : World) : Calls Tryd.prog 6 #[.string ⟨#[116, 97, 103]⟩] w fun e w' => e = .returned (.tuple #[.int .i64 4, .bool true]) ∧ w' = w := by
  go_enter Tryd.func6, Tryd.ntmps6
  go_wp2
  go_ret2
  exact ⟨rfl, rfl⟩

set_option maxHeartbeats 400000 in
theorem parse_6 (w : World) : Calls Tryd.prog 6 #[.string ⟨#[111, 102, 115, 45, 100, 101, 108, 116, 97]⟩] w fun e w' => e = .returned (.tuple #[.int .i64 6, .bool true]) ∧ w' = w := by
  go_enter Tryd.func6, Tryd.ntmps6
  go_wp2
  go_ret2
  exact ⟨rfl, rfl⟩

set_option maxHeartbeats 400000 in
theorem parse_7 (w : World) : Calls Tryd.prog 6 #[.string ⟨#[114, 101, 102, 45, 100, 101, 108, 116, 97]⟩] w fun e w' => e = .returned (.tuple #[.int .i64 7, .bool true]) ∧ w' = w := by
  go_enter Tryd.func6, Tryd.ntmps6
  go_wp2
  go_ret2
  exact ⟨rfl, rfl⟩

/-! ### The plain facts on the 256 names -/

/-- What the walk asks of one numbered name, on lists. -/
def Fits (b : Nat) : Prop :=
  (Lib.itoa b).length ≤ 3 ∧ 1 ≤ (Lib.itoa b).length ∧ (nameOf b).length = (Lib.itoa b).length + 12 ∧
  (nameOf b).take 11 = [79, 98, 106, 101, 99, 116, 84, 121, 112, 101, 40] ∧ (nameOf b)[(Lib.itoa b).length + 11]? = some 41 ∧ ((nameOf b).drop 11).take (Lib.itoa b).length = Lib.itoa b ∧
  (1 < (Lib.itoa b).length → (Lib.itoa b)[0]? ≠ some 48) ∧ (∀ c ∈ Lib.itoa b, 48 ≤ c.toNat ∧ c.toNat ≤ 57) ∧ val (Lib.itoa b) = (b : Int) ∧
  ∀ k : Fin 4, 0 ≤ val ((Lib.itoa b).take k.val) ∧ val ((Lib.itoa b).take k.val) ≤ 255

theorem fits (b : Nat) (h : b < 256) (n1 : b ≠ 1) (n2 : b ≠ 2) (n3 : b ≠ 3) (n4 : b ≠ 4) (n6 : b ≠ 6) (n7 : b ≠ 7) : Fits b := by
  have k : ∀ n : Fin 256, n.val ≠ 1 → n.val ≠ 2 → n.val ≠ 3 → n.val ≠ 4 → n.val ≠ 6 → n.val ≠ 7 → Fits n.val := by
    unfold Fits
    decide +kernel
  exact k ⟨b, h⟩ n1 n2 n3 n4 n6 n7

theorem ne_of_len {s : ByteArray} {l : List UInt8} (h : s.size ≠ l.length) : (s.toList == l) = false := by
  rw [beq_eq_false_iff_ne, ByteArray.toList_eq]
  intro e
  exact h (by rw [← e]; simp)

theorem parse_num (b : Nat) (h : b < 256) (w : World) (n1 : b ≠ 1) (n2 : b ≠ 2) (n3 : b ≠ 3) (n4 : b ≠ 4) (n6 : b ≠ 6) (n7 : b ≠ 7) :
    Calls Tryd.prog 6 #[.string ⟨(nameOf b).toArray⟩] w fun e w' => e = .returned (.tuple #[.int .i64 b, .bool true]) ∧ w' = w := by
  obtain ⟨f1, f2, f3, f4, f5, f6, f7, f8, f9, f10⟩ := fits b h n1 n2 n3 n4 n6 n7
  have hs : (⟨(nameOf b).toArray⟩ : ByteArray).size = (Lib.itoa b).length + 12 := by rw [← f3]; rfl
  have hb := parse_other ⟨(nameOf b).toArray⟩ ⟨(Lib.itoa b).toArray⟩ (Lib.itoa b).length w f2 f1 hs rfl
    (ne_of_len (by rw [hs]; simp)) (ne_of_len (by rw [hs]; simp)) (ne_of_len (by rw [hs]; simp)) (ne_of_len (by rw [hs]; simp)) (ne_of_len (by rw [hs]; simp)) (ne_of_len (by rw [hs]; simp))
    (bytes_inj (by rw [← ByteArray.toList_eq, Lib.extract_toList]; exact f4))
    (fun hi => by
      have e : (nameOf b)[(Lib.itoa b).length + 11]? = some ((⟨(nameOf b).toArray⟩ : ByteArray)[(Lib.itoa b).length + 11]'hi) := by
        rw [List.getElem?_eq_getElem (by simpa [ByteArray.size] using hi)]; rfl
      rw [f5] at e
      rw [← Option.some.inj e]; rfl)
    (bytes_inj (by rw [← ByteArray.toList_eq, Lib.extract_toList, Nat.add_sub_cancel]; exact f6))
    (fun h1 hi => by
      have e : (Lib.itoa b)[0]? = some ((⟨(Lib.itoa b).toArray⟩ : ByteArray)[0]'hi) := by
        rw [List.getElem?_eq_getElem (by simpa [ByteArray.size] using hi)]; rfl
      have hne := f7 h1
      rw [e] at hne
      rw [beq_eq_false_iff_ne]
      intro h48
      exact hne (congrArg some (UInt8.toNat_inj.1 (Int.ofNat.inj h48))))
    (fun k hk => by
      have hm : (⟨(Lib.itoa b).toArray⟩ : ByteArray)[k]'hk ∈ Lib.itoa b := by
        have hk' : k < (Lib.itoa b).length := by simpa [ByteArray.size] using hk
        exact (show (Lib.itoa b)[k] ∈ Lib.itoa b from List.getElem_mem hk')
      have := f8 _ hm
      omega)
    (fun k => by
      by_cases hk : k < 4
      · exact f10 ⟨k, hk⟩
      · have := f10 ⟨3, by decide⟩
        rw [List.take_of_length_le f1] at this
        simp only [List.take_of_length_le (show (Lib.itoa b).length ≤ k by omega)]
        exact this)
  simp only [f9] at hb
  exact hb

theorem parse_any (b : Nat) (h : b < 256) (w : World) :
    Calls Tryd.prog 6 #[.string ⟨(nameOf b).toArray⟩] w fun e w' => e = .returned (.tuple #[.int .i64 b, .bool true]) ∧ w' = w := by
  by_cases n1 : b = 1
  · subst n1; exact parse_1 w
  by_cases n2 : b = 2
  · subst n2; exact parse_2 w
  by_cases n3 : b = 3
  · subst n3; exact parse_3 w
  by_cases n4 : b = 4
  · subst n4; exact parse_4 w
  by_cases n6 : b = 6
  · subst n6; exact parse_6 w
  by_cases n7 : b = 7
  · subst n7; exact parse_7 w
  exact parse_num b h w n1 n2 n3 n4 n6 n7

theorem ret_bool' {a b : Bool} (h : a = b) : Ending.returned (.bool a) = .returned (.bool b) := by rw [h]

set_option maxHeartbeats 400000 in
theorem back_walk (b : Nat) (h : b < 256) (w : World) (htab : Lib.TabIs Tryd.prog w powName .u64 Lib.pow10Tab) :
    Calls Tryd.prog 3 #[.int .u8 b] w fun e w' => e = .returned (.bool true) ∧ Below w.heap.size w w' := by
  have hst := string_any b h w htab
  have hpa := parse_any b h
  clear htab
  obtain ⟨s, hs⟩ : ∃ s : ByteArray, s = ⟨(nameOf b).toArray⟩ := ⟨_, rfl⟩
  rw [← hs] at hst hpa
  clear hs
  go_enter Tryd.func3, Tryd.ntmps3
  go_wp2_with fail
  refine hst.mono ?_
  clear hst
  rintro e w' ⟨rfl, hb⟩
  go_wp2_with fail
  refine (hpa _).mono ?_
  clear hpa
  rintro e w2 ⟨rfl, rfl⟩
  go_wp2
  go_ret
  exact ⟨by first | rfl | exact ret_bool' (by simp), hb⟩
end Go.Proofs.Qxb6001053aDoor
