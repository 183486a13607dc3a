/-
  SEAT b6002389aF: THE WALK OF 'FnParseIDAcceptsExactly64HexDigits' (function 4): it returns true; what lay in memory is as it was.
-/
import Derived.Test.Qxb6002389aFmtParse
namespace Go.Proofs.Qxb6002389aFmt
open Go.RowKit Go.Lib Go.Extern.Stop Go.Stop Go.Extern

/-- Is s an ID's text? -/
def isText (s : ByteArray) : Bool := decide (s.size = 64) && allHex s.data.toList

theorem istext_no (s : ByteArray) (w : World) (h : isText s = false) :
    Calls Tryf.prog 10 #[.string s] w fun e w' => e = .returned (.bool false) ∧ w' = w := by
  by_cases h6 : s.size = 64
  · have hx : allHex s.data.toList = false := by simpa [isText, h6] using h
    have := istext_64 s w h6
    rw [hx] at this
    exact this
  · exact istext_len s w (by simp; omega)

theorem parse_no (F : Interp) (s : ByteArray) (ev : Value) (w : World) (hF : F.answers w.tape) (hE : w.cell? ⟨0, 0, none⟩ = some ev) (h : isText s = false) :
    Calls Tryf.prog 7 #[.string s] w fun e w' => ∃ T a, e = .returned (.tuple #[.agg zeros.toArray, .iface T (.pointer (some a))]) ∧ Below w.heap.size w w' := by
  by_cases h6 : s.size = 64
  · exact parse_bad F s ev w hF h6 hE (by simpa [isText, h6] using h)
  · exact parse_len F s w hF (by simp; omega)

theorem there_new (w : World) : (w.alloc (.cells (Array.replicate 32 (.int .u8 0)) 23)).there w.heap.size 0 32 :=
  there_of (t := 23) (f := fun _ => .int .u8 0) (by
    have := World.rowIs_alloc w (Array.replicate 32 (.int .u8 0)) 23 (fun _ => .int .u8 0) (fun i hi => by
      have hi' : i < 32 := by simpa using hi
      simp [hi'])
    simpa using this)

/-- The store of the law's own line 'id, err := ..': the whole array at once, into the block made last. -/
theorem store_id (w : World) (cs : List Value) (hl : cs.length = 32) (h1 : ∀ v ∈ cs, v.oneCell' = true) :
    ∃ w2, (storeCells ⟨w.heap.size, 0, none⟩ cs).run Tryf.prog (w.alloc (.cells #[.int .u8 0, .int .u8 0, .int .u8 0, .int .u8 0, .int .u8 0, .int .u8 0, .int .u8 0, .int .u8 0, .int .u8 0, .int .u8 0, .int .u8 0, .int .u8 0, .int .u8 0, .int .u8 0, .int .u8 0, .int .u8 0, .int .u8 0, .int .u8 0, .int .u8 0, .int .u8 0, .int .u8 0, .int .u8 0, .int .u8 0, .int .u8 0, .int .u8 0, .int .u8 0, .int .u8 0, .int .u8 0, .int .u8 0, .int .u8 0, .int .u8 0, .int .u8 0] 23)) = .ok () w2 ∧ w2.rangeAt w.heap.size 0 cs ∧ Below w.heap.size w w2 := by
  have ht := there_new w
  have hst := run_storeCells_cells (P := Tryf.prog) w.heap.size 0 cs 0 (w.alloc (.cells (Array.replicate 32 (.int .u8 0)) 23)) (fun j hj => by simpa using (ht j (by omega)).1) (fun j hj => by rw [Nat.add_zero]; exact (ht j (by omega)).2) h1
  refine ⟨_, hst, World.rangeAt_setCells_same _ _ 0 cs (by rw [hl]; exact ht), below_setCells _ (Nat.le_refl _) cs _ _ ((Below.refl _ w).alloc (Nat.le_refl _) _)⟩

/-- 'id == (proofstore.ID{})' at the zero ID. -/
theorem eq_zero (w : World) : (Op.equalIn 10000 23 (.agg zeros.toArray) (.agg #[.int .u8 0, .int .u8 0, .int .u8 0, .int .u8 0, .int .u8 0, .int .u8 0, .int .u8 0, .int .u8 0, .int .u8 0, .int .u8 0, .int .u8 0, .int .u8 0, .int .u8 0, .int .u8 0, .int .u8 0, .int .u8 0, .int .u8 0, .int .u8 0, .int .u8 0, .int .u8 0, .int .u8 0, .int .u8 0, .int .u8 0, .int .u8 0, .int .u8 0, .int .u8 0, .int .u8 0, .int .u8 0, .int .u8 0, .int .u8 0, .int .u8 0, .int .u8 0])).run Tryf.prog w = .ok true w := by kernel_rfl

set_option maxHeartbeats 400000 in
theorem law_no (F : Interp) (s : ByteArray) (ev : Value) (w : World) (hF : F.answers w.tape) (hE : w.cell? ⟨0, 0, none⟩ = some ev) (hl : s.size ≤ 1048576) (h : isText s = false) :
    Calls Tryf.prog 4 #[.string s] w fun e w' => e = .returned (.bool true) ∧ Below w.heap.size w w' := by
  have hz := zz_yes s w hl
  have ht := istext_no s w h
  have hp := parse_no F s ev w hF hE h
  clear h hF hE
  go_enter Tryf.func4, Tryf.ntmps4
  go_wp2_with fail
  refine hz.mono ?_
  rintro e wx ⟨rfl, rfl⟩
  go_wp2_with fail
  refine ht.mono ?_
  rintro e wy ⟨rfl, rfl⟩
  go_wp2_with fail
  refine hp.mono ?_
  clear hz ht hp
  rintro e w1 ⟨T, a, rfl, hb⟩
  have HB : Hid (Below wy.heap.size wy w1) := hb
  clear hb
  obtain ⟨w2, hst, hr, hb2⟩ := store_id w1 zeros rfl (fun v hv => by rw [List.eq_of_mem_replicate hv]; rfl)
  have HR : Hid (w2.rangeAt w1.heap.size 0 zeros) := hr
  have HB2 : Hid (Below w1.heap.size w1 w2) := hb2
  have hzl : zeros.length = 32 := rfl
  clear hr hb2
  have heq := eq_zero
  go_wp2_with (refine wpList_load_mid rfl 23 (.tmp 4) rfl w1.heap.size 0 rfl zeros _ HR.out Tryf.underlying23 rfl (by rw [size23, hzl]) ?_)
  go_ret
  exact ⟨rfl, HB.out.trans (HB2.out.mono HB.out.size)⟩


theorem at_list (s : ByteArray) (k : Nat) (h : k < s.size) : s.data.toList[k]? = some (s[k]'h) := by
  rw [List.getElem?_eq_getElem (by simpa using h)]; rfl

set_option maxHeartbeats 400000 in
theorem law_yes (s : ByteArray) (ev : Value) (w : World) (hE : w.cell? ⟨0, 0, none⟩ = some ev) (h : s.size = 64) (hx : allHex s.data.toList = true) :
    Calls Tryf.prog 4 #[.string s] w fun e w' => e = .returned (.bool true) ∧ Below w.heap.size w w' := by
  have hz := zz_yes s w (by omega)
  have ht := istext_64 s w h
  rw [hx] at ht
  have hp := parse_ok s ev w h hE hx
  obtain ⟨_, d2, d3⟩ := decode_all 32 s.data.toList (by simpa using h) hx
  generalize (Hx.decode s.data.toList).1 = D at hp d2 d3
  have HX : Hid (allHex s.data.toList = true) := hx
  have HD : Hid (∀ k p q, s.data.toList[2 * k]? = some p → s.data.toList[2 * k + 1]? = some q → D[k]? = some (UInt8.ofNat (Hx.v p * 16 + Hx.v q))) := d3
  have HL : Hid (D.length = 32) := d2
  clear hE d2 d3 hx
  go_enter Tryf.func4, Tryf.ntmps4
  go_wp2_with fail
  refine hz.mono ?_
  rintro e wx ⟨rfl, rfl⟩
  go_wp2_with fail
  refine ht.mono ?_
  rintro e wy ⟨rfl, rfl⟩
  go_wp2_with fail
  refine hp.mono ?_
  clear hz ht hp
  rintro e w1 ⟨rfl, hb⟩
  have HB : Hid (Below wy.heap.size wy w1) := hb
  clear hb
  obtain ⟨w2, hst, hr, hb2⟩ := store_id w1 (vals D) (by rw [vals_length, HL.out]) (fun v hv => by obtain ⟨b, _, rfl⟩ := List.mem_map.1 hv; rfl)
  have HR : Hid (w2.rangeAt w1.heap.size 0 (vals D)) := hr
  have HB2 : Hid (Below w1.heap.size w1 w2) := hb2
  have hzl : (vals D).length = 32 := by rw [vals_length, HL.out]
  clear hr hb2
  go_wp2
  go_loop [6] (fun i => ∃ k : Nat, k ≤ 32 ∧ i = .int .i64 k) (fun i => 32 - (RowKit.intOf i).toNat)
  case atStart => exact ⟨0, Nat.zero_le _, rfl⟩
  case round =>
    obtain ⟨k, hk, rfl⟩ := hrel
    by_cases hlt : k < 32
    · have h1 : 2 * k < s.size := by omega
      have h2 : 2 * k + 1 < s.size := by omega
      have v1 := hexval_yes (s[2 * k]'h1) w2 (allHex_at HX.out (List.mem_of_getElem? (at_list s _ h1)))
      have v2 := hexval_yes (s[2 * k + 1]'h2) w2 (allHex_at HX.out (List.mem_of_getElem? (at_list s _ h2)))
      have hq : w2.cell? ⟨w1.heap.size, k, none⟩ = some (.int .u8 ((UInt8.ofNat (Hx.v (s[2 * k]'h1) * 16 + Hx.v (s[2 * k + 1]'h2))).toNat : Int)) := by
        have := HR.out k (.int .u8 ((UInt8.ofNat (Hx.v (s[2 * k]'h1) * 16 + Hx.v (s[2 * k + 1]'h2))).toNat : Int)) (by
          unfold vals
          rw [List.getElem?_map, HD.out k _ _ (at_list s _ h1) (at_list s _ h2)]; rfl)
        rwa [Nat.zero_add] at this
      have b1 : Hx.v (s[2 * k]'h1) ≤ 15 := of_decide_eq_true (allHex_at HX.out (List.mem_of_getElem? (at_list s _ h1)))
      have b2 : Hx.v (s[2 * k + 1]'h2) ≤ 15 := of_decide_eq_true (allHex_at HX.out (List.mem_of_getElem? (at_list s _ h2)))
      have HO := Hx.or_digits (Hx.v (s[2 * k]'h1)) (Hx.v (s[2 * k + 1]'h2)) (by omega) (by omega)
      go_wp2_with fail
      refine v1.mono ?_
      clear v1
      rintro e wz ⟨rfl, rfl⟩
      go_wp2_with fail
      refine v2.mono ?_
      clear v2
      rintro e wz ⟨rfl, rfl⟩
      generalize Hx.v (s[2 * k]'h1) = x at hq b1 HO ⊢
      generalize Hx.v (s[2 * k + 1]'h2) = y at hq b2 HO ⊢
      go_wp2
      go_round
      case rel => exact ⟨k + 1, by omega, by go_num⟩
      case measure => simp [RowKit.intOf]; omega
    · go_wp2
      go_ret
      exact ⟨rfl, HB.out.trans (HB2.out.mono HB.out.size)⟩

set_option maxHeartbeats 400000 in
theorem law_long (s : ByteArray) (w : World) (hl : s.size ≤ maxLen) (h : ¬ s.size ≤ 1048576) :
    Calls Tryf.prog 4 #[.string s] w fun e w' => e = .returned (.bool true) ∧ Below w.heap.size w w' := by
  have hz := zz_no s w hl h
  clear hl
  go_enter Tryf.func4, Tryf.ntmps4
  go_wp2_with fail
  refine hz.mono ?_
  clear hz
  rintro e wx ⟨rfl, rfl⟩
  go_wp2
  go_ret
  exact ⟨rfl, Below.refl _ _⟩

/-- The law, at every string. -/
theorem law_any (F : Interp) (s : ByteArray) (ev : Value) (w : World) (hF : F.answers w.tape) (hE : w.cell? ⟨0, 0, none⟩ = some ev) (hl : s.size ≤ maxLen) :
    Calls Tryf.prog 4 #[.string s] w fun e w' => e = .returned (.bool true) ∧ Below w.heap.size w w' := by
  by_cases h : s.size ≤ 1048576
  · cases ht : isText s with
    | false => exact law_no F s ev w hF hE h ht
    | true =>
      have h2 : s.size = 64 ∧ allHex s.data.toList = true := by simpa [isText] using ht
      exact law_yes s ev w hE h2.1 h2.2
  · exact law_long s w hl h

end Go.Proofs.Qxb6002389aFmt
