/-
  SEAT b6002352aF: the contract of (time.Duration).format (function 12) at every duration that is not positive: it writes into the 32 bytes of its buffer alone and returns a place in it: no index is out of range.
-/
import Derived.Test.Qxb6002352aFmtDur
import Derived.WalkSpells
namespace Go.Proofs.Qxb6002352aFmt
open Go.RowKit

theorem wrap_neg (u : Int) (h0 : 0 < u) (h1 : u ≤ 9223372036854775808) : IntKind.u64.wrap (-IntKind.u64.wrap (-u)) = u := by
  have e : ∀ y : Int, IntKind.u64.wrap y = y % 18446744073709551616 := fun y => by simp [IntKind.wrap, IntKind.signed, IntKind.bits]
  rw [e, e]
  omega

theorem len35 : Tryf.prog.arrayLen 35 = 32 := by kernel_rfl

theorem slice_to (b m : Nat) (h : m ≤ 32) (w : World) : (Instr.sliceAt 35 (.pointer (some ⟨b, 0, none⟩)) none (some (.int .i64 m)) none).run Tryf.prog w = .ok (.slice (some ⟨b, 0, none⟩) m 32) w := by
  have := run_sliceAt_array_h (P := Tryf.prog) (t := 35) (a := ⟨b, 0, none⟩) w Tryf.underlying35 .i64 m (by omega) (by rw [len35]; omega)
  have hz : (sizeOf (Tryf.prog.elem 35)).run Tryf.prog w = .ok 1 w := by kernel_rfl
  rw [hz, len35] at this
  rw [this]
  simp [slicedAt, Result.andThen, Addr.add]

set_option maxHeartbeats 400000 in
theorem format_zero (b : Nat) (w : World) (hb : Own b w w) :
    Calls Tryf.prog 12 #[.int .i64 0, .pointer (some ⟨b, 0, none⟩)] w fun e w' => ∃ m : Nat, e = .returned (.int .i64 m) ∧ m < 32 ∧ Own b w w' := by
  obtain ⟨z, hc⟩ := hb.cell (i := 31) (by omega)
  have hf := hb.frozen 31
  obtain ⟨z1, hc1⟩ := hb.cell (i := 30) (by omega)
  have hf1 := hb.frozen 30
  have HB : Hid (Own b w ((w.setCell ⟨b, 31, none⟩ (.int .u8 115)).setCell ⟨b, 30, none⟩ (.int .u8 48))) := (hb.set 31 (z := 115) (by decide) (by decide)).set 30 (z := 48) (by decide) (by decide)
  clear hb
  go_enter Tryf.func12, Tryf.ntmps12
  go_wp2
  go_ret
  exact ⟨30, rfl, by decide, HB.out⟩

set_option maxHeartbeats 400000 in
theorem format_long (b : Nat) (u : Int) (w : World) (hb : Own b w w) (h0 : 0 < u) (h1 : u ≤ 9223372036854775808) (h2 : 1000000000 ≤ u) :
    Calls Tryf.prog 12 #[.int .i64 (-u), .pointer (some ⟨b, 0, none⟩)] w fun e w' => ∃ m : Nat, e = .returned (.int .i64 m) ∧ m < 32 ∧ Own b w w' := by
  obtain ⟨z, hc⟩ := hb.cell (i := 31) (by omega)
  have hf := hb.frozen 31
  have hw := wrap_neg u h0 h1
  obtain ⟨w1, hw1⟩ : ∃ w1, w1 = w.setCell ⟨b, 31, none⟩ (.int .u8 115) := ⟨_, rfl⟩
  have HB : Hid (Own b w w1) := by rw [hw1]; exact hb.set 31 (z := 115) (by decide) (by decide)
  clear hb
  go_enter Tryf.func12, Tryf.ntmps12
  go_wp2_with fail
  rw [← hw1]
  clear hw hc hf
  refine (fmtFrac b 31 _ 9 u w1 HB.out.here (by omega) (by omega) (by omega) (by omega)).mono ?_
  rintro e w2 ⟨m, x, rfl, hx, hm1, hm2, hO⟩
  have hx0 : 0 ≤ x := by have := hx.out; omega
  have hx1 : x ≤ 9223372036 := by have := hx.out; omega
  have HB2 : Hid (Own b w w2) := HB.out.trans hO
  clear hO HB hw1
  have hs1 := slice_to b m (by omega)
  go_wp2_with fail
  refine (fmtInt b m _ 2 _ w2 HB2.out.here (by omega) (by omega) (by omega) (by omega) (by show _ < (100 : Int); omega) (by omega)).mono ?_
  rintro e w3 ⟨m3, rfl, hm3, hn3, hO⟩
  have HB3 : Hid (Own b w w3) := HB2.out.trans hO
  clear hO HB2 hs1
  obtain ⟨k3, rfl⟩ : ∃ k, m3 = k + 1 := ⟨m3 - 1, by omega⟩
  obtain ⟨z3, hc3⟩ := HB3.out.cell (i := k3) (by omega)
  have hf3 := HB3.out.frozen k3
  by_cases hmin : 0 < x / 60
  · obtain ⟨w4, hw4⟩ : ∃ w4, w4 = w3.setCell ⟨b, k3, none⟩ (.int .u8 109) := ⟨_, rfl⟩
    have HB4 : Hid (Own b w w4) := by rw [hw4]; exact HB3.out.set k3 (by decide) (by decide)
    have hs3 := slice_to b k3 (by omega)
    go_wp2_with fail
    rw [← hw4]
    refine (fmtInt b k3 _ 2 _ w4 HB4.out.here (by omega) (by omega) (by omega) (by omega) (by show _ < (100 : Int); omega) (by omega)).mono ?_
    rintro e w5 ⟨m5, rfl, hm5, hn5, hO⟩
    have HB5 : Hid (Own b w w5) := HB4.out.trans hO
    clear hO HB4 hs3 HB3 hc3 hf3 hw4
    obtain ⟨k5, rfl⟩ : ∃ k, m5 = k + 1 := ⟨m5 - 1, by omega⟩
    obtain ⟨z5, hc5⟩ := HB5.out.cell (i := k5) (by omega)
    have hf5 := HB5.out.frozen k5
    by_cases hhour : 0 < x / 60 / 60
    · obtain ⟨w6, hw6⟩ : ∃ w6, w6 = w5.setCell ⟨b, k5, none⟩ (.int .u8 104) := ⟨_, rfl⟩
      have HB6 : Hid (Own b w w6) := by rw [hw6]; exact HB5.out.set k5 (by decide) (by decide)
      have hs5 := slice_to b k5 (by omega)
      go_wp2_with fail
      rw [← hw6]
      refine (fmtInt b k5 _ 7 _ w6 HB6.out.here (by omega) (by omega) (by omega) (by omega) (by show _ < (10000000 : Int); omega) (by omega)).mono ?_
      rintro e w7 ⟨m7, rfl, hm7, hn7, hO⟩
      have HB7 : Hid (Own b w w7) := HB6.out.trans hO
      clear hO HB6 hs5 HB5 hc5 hf5 hw6
      obtain ⟨k7, rfl⟩ : ∃ k, m7 = k + 1 := ⟨m7 - 1, by omega⟩
      obtain ⟨z7, hc7⟩ := HB7.out.cell (i := k7) (by omega)
      have hf7 := HB7.out.frozen k7
      go_wp2
      go_ret
      exact ⟨k7, rfl, by omega, HB7.out.set k7 (by decide) (by decide)⟩
    · go_wp2
      go_ret
      exact ⟨k5, rfl, by omega, HB5.out.set k5 (by decide) (by decide)⟩
  · go_wp2
    go_ret
    exact ⟨k3, rfl, by omega, HB3.out.set k3 (by decide) (by decide)⟩

set_option maxHeartbeats 400000 in
theorem format_ns (b : Nat) (u : Int) (w : World) (hb : Own b w w) (h0 : 0 < u) (h2 : u < 1000) :
    Calls Tryf.prog 12 #[.int .i64 (-u), .pointer (some ⟨b, 0, none⟩)] w fun e w' => ∃ m : Nat, e = .returned (.int .i64 m) ∧ m < 32 ∧ Own b w w' := by
  obtain ⟨z, hc⟩ := hb.cell (i := 31) (by omega)
  have hf := hb.frozen 31
  obtain ⟨z0, hc0⟩ := hb.cell (i := 30) (by omega)
  have hf0 := hb.frozen 30
  have hw := wrap_neg u h0 (by omega)
  have hz : (u == 0) = false := by rw [beq_eq_false_iff_ne]; omega
  obtain ⟨w1, hw1⟩ : ∃ w1, w1 = (w.setCell ⟨b, 31, none⟩ (.int .u8 115)).setCell ⟨b, 30, none⟩ (.int .u8 110) := ⟨_, rfl⟩
  have HB : Hid (Own b w w1) := by rw [hw1]; exact (hb.set 31 (by decide) (by decide)).set 30 (by decide) (by decide)
  clear hb
  have hs0 := slice_to b 30 (by omega)
  go_enter Tryf.func12, Tryf.ntmps12
  go_wp2_with fail
  rw [← hw1]
  clear hw hc hf hc0 hf0
  refine (fmtFrac b 30 _ 0 u w1 HB.out.here (by omega) (by omega) (by omega) (by omega)).mono ?_
  rintro e w2 ⟨m, x, rfl, hx, hm1, hm2, hO⟩
  have hx0 : 0 ≤ x := by have := hx.out; omega
  have hx1 : x < 1000 := by have := hx.out; omega
  have HB2 : Hid (Own b w w2) := HB.out.trans hO
  clear hO HB hw1 hs0
  have hs1 := slice_to b m (by omega)
  go_wp2_with fail
  refine (fmtInt b m _ 3 _ w2 HB2.out.here (by omega) (by omega) (by omega) (by omega) (by show _ < (1000 : Int); omega) (by omega)).mono ?_
  rintro e w3 ⟨m3, rfl, hm3, hn3, hO⟩
  have HB3 : Hid (Own b w w3) := HB2.out.trans hO
  clear hO HB2 hs1
  obtain ⟨k3, rfl⟩ : ∃ k, m3 = k + 1 := ⟨m3 - 1, by omega⟩
  obtain ⟨z3, hc3⟩ := HB3.out.cell (i := k3) (by omega)
  have hf3 := HB3.out.frozen k3
  go_wp2
  go_ret
  exact ⟨k3, rfl, by omega, HB3.out.set k3 (by decide) (by decide)⟩

set_option maxHeartbeats 400000 in
theorem format_ms (b : Nat) (u : Int) (w : World) (hb : Own b w w) (h0 : 0 < u) (h1 : 1000000 ≤ u) (h2 : u < 1000000000) :
    Calls Tryf.prog 12 #[.int .i64 (-u), .pointer (some ⟨b, 0, none⟩)] w fun e w' => ∃ m : Nat, e = .returned (.int .i64 m) ∧ m < 32 ∧ Own b w w' := by
  obtain ⟨z, hc⟩ := hb.cell (i := 31) (by omega)
  have hf := hb.frozen 31
  obtain ⟨z0, hc0⟩ := hb.cell (i := 30) (by omega)
  have hf0 := hb.frozen 30
  have hw := wrap_neg u h0 (by omega)
  have hz : (u == 0) = false := by rw [beq_eq_false_iff_ne]; omega
  obtain ⟨w1, hw1⟩ : ∃ w1, w1 = (w.setCell ⟨b, 31, none⟩ (.int .u8 115)).setCell ⟨b, 30, none⟩ (.int .u8 109) := ⟨_, rfl⟩
  have HB : Hid (Own b w w1) := by rw [hw1]; exact (hb.set 31 (by decide) (by decide)).set 30 (by decide) (by decide)
  clear hb
  have hs0 := slice_to b 30 (by omega)
  go_enter Tryf.func12, Tryf.ntmps12
  go_wp2_with fail
  rw [← hw1]
  clear hw hc hf hc0 hf0
  refine (fmtFrac b 30 _ 6 u w1 HB.out.here (by omega) (by omega) (by omega) (by omega)).mono ?_
  rintro e w2 ⟨m, x, rfl, hx, hm1, hm2, hO⟩
  have hx0 : 0 ≤ x := by have := hx.out; omega
  have hx1 : x < 1000 := by have := hx.out; omega
  have HB2 : Hid (Own b w w2) := HB.out.trans hO
  clear hO HB hw1 hs0
  have hs1 := slice_to b m (by omega)
  go_wp2_with fail
  refine (fmtInt b m _ 3 _ w2 HB2.out.here (by omega) (by omega) (by omega) (by omega) (by show _ < (1000 : Int); omega) (by omega)).mono ?_
  rintro e w3 ⟨m3, rfl, hm3, hn3, hO⟩
  have HB3 : Hid (Own b w w3) := HB2.out.trans hO
  clear hO HB2 hs1
  obtain ⟨k3, rfl⟩ : ∃ k, m3 = k + 1 := ⟨m3 - 1, by omega⟩
  obtain ⟨z3, hc3⟩ := HB3.out.cell (i := k3) (by omega)
  have hf3 := HB3.out.frozen k3
  go_wp2
  go_ret
  exact ⟨k3, rfl, by omega, HB3.out.set k3 (by decide) (by decide)⟩

theorem size5 : (Tryf.prog.info? 5).map (·.size) = some 1 := by kernel_rfl

/-- the built-in copy of the micro sign: two cells. -/
theorem copy_us (b : Nat) (w : World) (hc : ∀ i, i < 32 → (w.cell? ⟨b, i, none⟩).isSome = true) (hf : ∀ i, w.frozen? ⟨b, i, none⟩ = false) :
    (Builtin.copy_ #[38, 9] 3 #[.slice (some ⟨b, 29, none⟩) 3 3, .string ⟨#[194, 181]⟩]).run Tryf.prog w = .ok (.int .i64 2) ((w.setCell ⟨b, 29, none⟩ (.int .u8 194)).setCell ⟨b, 30, none⟩ (.int .u8 181)) := by
  have hst := run_storeCells_cells (P := Tryf.prog) b 29 [.int .u8 194, .int .u8 181] 0 w (fun j hj => hc _ (by simp at hj; omega)) (fun j _ => hf _) (by simp [Value.oneCell'])
  cases hq : Tryf.prog.info? 5 with
  | none => have := size5; rw [hq] at this; cases this
  | some i =>
    have hz : (⟨#[194, 181]⟩ : ByteArray).size = 2 := rfl
    simp [Builtin.copy_, run_underlying Tryf.underlying38, Builtin.lenOf, Builtin.firstCells, sizeOf, typeInfo, hq, hz, hst, World.setCells, goInt]

set_option maxHeartbeats 400000 in
theorem format_us (b : Nat) (u : Int) (w : World) (hb : Own b w w) (h0 : 0 < u) (h1 : 1000 ≤ u) (h2 : u < 1000000) :
    Calls Tryf.prog 12 #[.int .i64 (-u), .pointer (some ⟨b, 0, none⟩)] w fun e w' => ∃ m : Nat, e = .returned (.int .i64 m) ∧ m < 32 ∧ Own b w w' := by
  obtain ⟨z, hc⟩ := hb.cell (i := 31) (by omega)
  have hf := hb.frozen 31
  have hw := wrap_neg u h0 (by omega)
  have hz : (u == 0) = false := by rw [beq_eq_false_iff_ne]; omega
  have hb1 : Own b w (w.setCell ⟨b, 31, none⟩ (.int .u8 115)) := hb.set 31 (by decide) (by decide)
  have hcp := copy_us b (w.setCell ⟨b, 31, none⟩ (.int .u8 115)) (fun i hi => by obtain ⟨z, h⟩ := hb1.cell hi; rw [h]; rfl) (fun i => hb1.frozen i)
  obtain ⟨w1, hw1⟩ : ∃ w1, w1 = ((w.setCell ⟨b, 31, none⟩ (.int .u8 115)).setCell ⟨b, 29, none⟩ (.int .u8 194)).setCell ⟨b, 30, none⟩ (.int .u8 181) := ⟨_, rfl⟩
  have HB : Hid (Own b w w1) := by rw [hw1]; exact (hb1.set 29 (by decide) (by decide)).set 30 (by decide) (by decide)
  rw [← hw1] at hcp
  clear hb hb1 hw1
  have hs0 := slice_to b 29 (by omega)
  go_enter Tryf.func12, Tryf.ntmps12
  go_wp2_with fail
  clear hw hc hf hcp
  refine (fmtFrac b 29 _ 3 u w1 HB.out.here (by omega) (by omega) (by omega) (by omega)).mono ?_
  rintro e w2 ⟨m, x, rfl, hx, hm1, hm2, hO⟩
  have hx0 : 0 ≤ x := by have := hx.out; omega
  have hx1 : x < 1000 := by have := hx.out; omega
  have HB2 : Hid (Own b w w2) := HB.out.trans hO
  clear hO HB hs0
  have hs1 := slice_to b m (by omega)
  go_wp2_with fail
  refine (fmtInt b m _ 3 _ w2 HB2.out.here (by omega) (by omega) (by omega) (by omega) (by show _ < (1000 : Int); omega) (by omega)).mono ?_
  rintro e w3 ⟨m3, rfl, hm3, hn3, hO⟩
  have HB3 : Hid (Own b w w3) := HB2.out.trans hO
  clear hO HB2 hs1
  obtain ⟨k3, rfl⟩ : ∃ k, m3 = k + 1 := ⟨m3 - 1, by omega⟩
  obtain ⟨z3, hc3⟩ := HB3.out.cell (i := k3) (by omega)
  have hf3 := HB3.out.frozen k3
  go_wp2
  go_ret
  exact ⟨k3, rfl, by omega, HB3.out.set k3 (by decide) (by decide)⟩

/-- (time.Duration).format at every duration that is not positive. -/
theorem format_any (b : Nat) (d : Int) (w : World) (hb : Own b w w) (h0 : d ≤ 0) (h1 : -9223372036854775808 ≤ d) :
    Calls Tryf.prog 12 #[.int .i64 d, .pointer (some ⟨b, 0, none⟩)] w fun e w' => ∃ m : Nat, e = .returned (.int .i64 m) ∧ m < 32 ∧ Own b w w' := by
  by_cases hz : d = 0
  · subst hz; exact format_zero b w hb
  obtain ⟨u, rfl⟩ : ∃ u : Int, d = -u := ⟨-d, by omega⟩
  by_cases c1 : u < 1000
  · exact format_ns b u w hb (by omega) c1
  by_cases c2 : u < 1000000
  · exact format_us b u w hb (by omega) (by omega) c2
  by_cases c3 : u < 1000000000
  · exact format_ms b u w hb (by omega) (by omega) c3
  exact format_long b u w hb (by omega) (by omega) (by omega)

end Go.Proofs.Qxb6002352aFmt
