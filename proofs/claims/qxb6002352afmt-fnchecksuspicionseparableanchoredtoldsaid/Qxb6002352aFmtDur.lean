/-
  SEAT b6002352aF: the contracts of time.fmtInt (function 14) and time.fmtFrac (13): each writes into its own buffer alone and returns a place in it.
-/
import Derived.Test.Qxb6002352aFmtRows
import Derived.Test.Qxb6002352aFmtBuf
import Derived.WalkSpells
namespace Go.Proofs.Qxb6002352aFmt
open Go.RowKit

set_option maxHeartbeats 400000 in
/-- time.fmtInt: v's digits, at most D of them, at the end of buf[:n]. -/
theorem fmtInt (b n cap D : Nat) (v : Int) (w : World) (hb : Own b w w) (hn : n ≤ 32) (hD : 1 ≤ D) (hDn : D ≤ n) (hv0 : 0 ≤ v) (hv1 : v < 10 ^ D) (hv2 : v ≤ 18446744073709551615) :
    Calls Tryf.prog 14 #[.slice (some ⟨b, 0, none⟩) n cap, .int .u64 v] w fun e w' => ∃ m : Nat, e = .returned (.int .i64 m) ∧ n ≤ m + D ∧ m ≤ n ∧ Own b w w' := by
  have HV : Hid (v < 10 ^ D) := hv1
  have HB : Hid (Own b w w) := hb
  clear hv1 hb
  by_cases hz : (v == 0) = true
  · obtain ⟨k, rfl⟩ : ∃ k, n = k + 1 := ⟨n - 1, by omega⟩
    obtain ⟨z, hc⟩ := HB.out.cell (i := k) (by omega)
    have hf := HB.out.frozen k
    go_enter Tryf.func14, Tryf.ntmps14
    go_wp2
    go_ret
    exact ⟨k, rfl, by omega, by omega, HB.out.set k (by decide) (by decide)⟩
  · have hz' : (v == 0) = false := by simpa using hz
    clear hz
    go_enter Tryf.func14, Tryf.ntmps14
    go_wp2
    go_loopw [1, 5] (fun vx vm wr => ∃ (x : Int) (m r : Nat), vx = .int .u64 x ∧ vm = .int .i64 m ∧ 0 ≤ x ∧ x ≤ 18446744073709551615 ∧ Hid (x < 10 ^ r) ∧ n + r ≤ m + D ∧ m ≤ n ∧ Hid (Own b w wr)) (fun vx _ _ => (intOf vx).toNat)
    case atStart => exact ⟨v, n, D, rfl, rfl, hv0, hv2, HV, by omega, by omega, HB⟩
    case round =>
      obtain ⟨x, m, r, rfl, rfl, hx0, hx1, hxr, hmr, hmn, hB⟩ := hrel
      by_cases hpos : 0 < x
      · have hr1 : 1 ≤ r := pow_pos hxr.out hpos
        obtain ⟨q, rfl⟩ : ∃ q, r = q + 1 := ⟨r - 1, by omega⟩
        obtain ⟨k, rfl⟩ : ∃ k, m = k + 1 := ⟨m - 1, by omega⟩
        obtain ⟨z, hc⟩ := hB.out.cell (i := k) (by omega)
        have hf := hB.out.frozen k
        go_wp2
        go_roundw
        case rel => exact ⟨x / 10, k, q, rfl, rfl, by omega, by omega, pow_step hxr.out, by omega, by omega, hB.out.set k (by omega) (by omega)⟩
        case measure => simp [intOf]; omega
      · go_wp2
        go_ret
        exact ⟨m, rfl, by omega, hmn, hB.out⟩

theorem div_step {v x : Int} {k : Nat} (h : x = v / 10 ^ k) : x / 10 = v / 10 ^ (k + 1) := by
  rw [h, Int.pow_succ, Int.ediv_ediv_of_nonneg (Int.le_of_lt (Int.pow_pos (by decide)))]

set_option maxHeartbeats 400000 in
/-- time.fmtFrac: at most prec digits and a point at the end of buf[:n]; v / 10^prec is left. -/
theorem fmtFrac (b n cap p : Nat) (v : Int) (w : World) (hb : Own b w w) (hn : n ≤ 32) (hp : p + 1 ≤ n) (hv0 : 0 ≤ v) (hv2 : v ≤ 18446744073709551615) :
    Calls Tryf.prog 13 #[.slice (some ⟨b, 0, none⟩) n cap, .int .u64 v, .int .i64 p] w fun e w' => ∃ (m : Nat) (x : Int), e = .returned (.tuple #[.int .i64 m, .int .u64 x]) ∧ Hid (x = v / 10 ^ p) ∧ n ≤ m + (p + 1) ∧ m ≤ n ∧ Own b w w' := by
  have HB : Hid (Own b w w) := hb
  clear hb
  go_enter Tryf.func13, Tryf.ntmps13
  go_wp2
  go_loopw [1, 8, 9, 10] (fun vx vm vp vi wr => ∃ (x : Int) (m k : Nat) (pr : Bool), vx = .int .u64 x ∧ vm = .int .i64 m ∧ vp = .bool pr ∧ vi = .int .i64 k ∧ k ≤ p ∧ 0 ≤ x ∧ x ≤ 18446744073709551615 ∧ Hid (x = v / 10 ^ k) ∧ n ≤ m + k ∧ m ≤ n ∧ Hid (Own b w wr)) (fun _ _ _ vi _ => p - (intOf vi).toNat)
  case atStart => exact ⟨v, n, 0, false, rfl, rfl, rfl, rfl, by omega, hv0, hv2, by show v = v / 10 ^ 0; simp, by omega, by omega, HB⟩
  case round =>
    obtain ⟨x, m, k, pr, rfl, rfl, rfl, rfl, hk, hx0, hx1, hxv, hmk, hmn, hB⟩ := hrel
    by_cases hlt : k < p
    · obtain ⟨j, rfl⟩ : ∃ j, m = j + 1 := ⟨m - 1, by omega⟩
      obtain ⟨z, hc⟩ := hB.out.cell (i := j) (by omega)
      have hf := hB.out.frozen j
      cases pr with
      | true => 
        go_wp2
        go_roundw
        case rel => exact ⟨x / 10, j, k + 1, true, rfl, rfl, rfl, by go_num, by omega, by omega, by omega, div_step hxv.out, by omega, by omega, hB.out.set j (by omega) (by omega)⟩
        case measure => simp [intOf]; omega
      | false => 
        by_cases hd : (x % 10 != 0) = true
        · go_wp2
          go_roundw
          case rel => exact ⟨x / 10, j, k + 1, true, rfl, rfl, rfl, by go_num, by omega, by omega, by omega, div_step hxv.out, by omega, by omega, hB.out.set j (by omega) (by omega)⟩
          case measure => simp [intOf]; omega
        · have hd' : (x % 10 != 0) = false := by simpa using hd
          clear hd
          go_wp2
          go_roundw
          case rel => exact ⟨x / 10, j + 1, k + 1, false, rfl, by go_num, rfl, by go_num, by omega, by omega, by omega, div_step hxv.out, by omega, by omega, hB⟩
          case measure => simp [intOf]; omega
    · have hkp : k = p := by omega
      have HX : Hid (x = v / 10 ^ p) := by rw [← hkp]; exact hxv
      clear hkp hxv
      cases pr with
      | true =>
        obtain ⟨j, rfl⟩ : ∃ j, m = j + 1 := ⟨m - 1, by omega⟩
        obtain ⟨z, hc⟩ := hB.out.cell (i := j) (by omega)
        have hf := hB.out.frozen j
        go_wp2
        go_ret2
        exact ⟨j, x, rfl, HX, by omega, by omega, hB.out.set j (by decide) (by decide)⟩
      | false =>
        go_wp2
        go_ret2
        exact ⟨m, x, rfl, HX, by omega, by omega, hB.out⟩
end Go.Proofs.Qxb6002352aFmt
