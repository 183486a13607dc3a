/-
  SEAT b6002352aF: the contract of (time.Duration).String (function 10) at every duration that is not positive: some string of at most 32 bytes; what lay in memory is as it was.
-/
import Derived.Test.Qxb6002352aFmtFormat
import Derived.Lib.Bytes
namespace Go.Proofs.Qxb6002352aFmt
open Go.RowKit

theorem slice_from (b m : Nat) (h : m < 32) (w : World) : (Instr.sliceAt 35 (.pointer (some ⟨b, 0, none⟩)) (some (.int .i64 m)) none none).run Tryf.prog w = .ok (.slice (some ⟨b, m, none⟩) (32 - m) (32 - m)) w := by
  have := run_sliceAt_array_l (P := Tryf.prog) (t := 35) (a := ⟨b, 0, none⟩) w Tryf.underlying35 .i64 m (by omega) (by rw [len35]; omega)
  have hz : (sizeOf (Tryf.prog.elem 35)).run Tryf.prog w = .ok 1 w := by kernel_rfl
  rw [hz, len35] at this
  rw [this]
  simp [slicedAt, Result.andThen, Addr.add, show ¬ 32 = m by omega]
  omega

theorem own_new (w : World) : Own w.heap.size (w.alloc (.cells (Array.replicate 32 (.int .u8 0)) 35)) (w.alloc (.cells (Array.replicate 32 (.int .u8 0)) 35)) :=
  ⟨rfl, rfl, rfl, rfl, fun _ _ => rfl, 35, fun _ => 0, fun _ => ⟨by show (0 : Int) ≤ 0; decide, by show (0 : Int) < 256; decide⟩, by
    have := World.rowIs_alloc w (Array.replicate 32 (.int .u8 0)) 35 (fun _ => .int .u8 0) (fun i hi => by
      have h : i < 32 := by simpa using hi
      simp [h])
    simpa using this⟩

set_option maxHeartbeats 400000 in
/-- (time.Duration).String at every duration that is not positive: some short string; what lay in memory is as it was. -/
theorem string_any (d : Int) (w : World) (h0 : d ≤ 0) (h1 : -9223372036854775808 ≤ d) :
    Calls Tryf.prog 10 #[.int .i64 d] w fun e w' => ∃ s : ByteArray, e = .returned (.string s) ∧ s.size ≤ 32 ∧ Below w.heap.size w w' := by
  have hfm := format_any w.heap.size d _ (own_new w) h0 h1
  have HB : Hid (Below w.heap.size w (w.alloc (.cells (Array.replicate 32 (.int .u8 0)) 35))) := (Below.refl _ w).alloc (Nat.le_refl _) _
  go_enter Tryf.func10, Tryf.ntmps10
  go_wp2_with fail
  refine hfm.mono ?_
  clear hfm
  rintro e w2 ⟨m, rfl, hm, hO⟩
  have HB2 : Hid (Below w.heap.size w w2) := HB.out.trans hO.below
  obtain ⟨_, _, _, _, _, t, zs, hz, hr⟩ := hO
  have hcv := run_convert_bytes_arg (P := Tryf.prog) w2 38 5 Tryf.underlying38 Tryf.underlying5 w.heap.size m (32 - m) (32 - m) ((List.range (32 - m)).map fun i => zs (m + i)) (by simp)
    (fun i hi => by rw [hr.cell (by omega)]; simp [hi]) 9 Tryf.underlying9
  have hs := slice_from w.heap.size m hm
  obtain ⟨s, hss⟩ : ∃ s, s = strOfNums ((List.range (32 - m)).map fun i => zs (m + i)) := ⟨_, rfl⟩
  have hsz : Hid (s.size ≤ 32) := by rw [hss]; show (strOfNums _).size ≤ 32; simp [strOfNums, ByteArray.size]
  rw [← hss] at hcv
  clear hr hz hss HB
  go_wp2
  go_ret
  exact ⟨s, rfl, hsz.out, HB2.out⟩
end Go.Proofs.Qxb6002352aFmt
