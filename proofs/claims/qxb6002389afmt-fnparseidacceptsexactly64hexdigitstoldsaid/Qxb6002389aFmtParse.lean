/-
  SEAT b6002389aF: THE CONTRACTS OF proofstore.ParseID (function 7): a text that is not 64 bytes long; 64 hexadecimal digits; 64 bytes not all of them hexadecimal digits. encoding/hex.Decode by the shelf's contract.
-/
import Derived.Test.Qxb6002389aFmtShelf
import Derived.Test.Qxb6002389aFmtText
import Derived.Test.Qxb6002389aFmtFacts
import Derived.Deep.MidRow
namespace Go.Proofs.Qxb6002389aFmt
open Go.RowKit Go.Lib Go.Extern.Stop Go.Stop Go.Extern

theorem size23 : (Tryf.prog.info? 23).map (·.size) = some 32 := by kernel_rfl

/-- Thirty-two zero bytes. -/
def zeros : List Value := List.replicate 32 (.int .u8 0)

/-- The result of ParseID out of her result's variable (block N) and her slot 3. -/
theorem results7 (tmps : Array Value) (w : World) (N : Nat) (cs : List Value) (v : Value) (h2 : tmps.getD 2 undef = .pointer (some ⟨N, 0, none⟩)) (h3 : tmps.getD 3 undef = v)
    (hr : w.rangeAt N 0 cs) (hl : cs.length = 32) : (results Tryf.f7 tmps).run Tryf.prog w = .ok (.tuple #[.agg cs.toArray, v]) w := by
  have hp : tmps[2]?.getD undef = .pointer (some ⟨N, 0, none⟩) := by simpa using h2
  have hq : tmps[3]?.getD undef = v := by simpa using h3
  have hload := run_loadVar_mid (P := Tryf.prog) w N 0 23 cs _ hr Tryf.underlying23 rfl (by rw [size23, hl])
  simp [results, Tryf.results7, hp, hq, asAddr, hload]

theorem below_setCells {B : Nat} {a : World} (b : Nat) (hb : B ≤ b) : ∀ (cs : List Value) (o : Nat) (w : World), Below B a w → Below B a (w.setCells b o cs)
  | [], _, _, h => h
  | v :: r, o, _, h => below_setCells b hb r (o + 1) _ (h.setCell (p := ⟨b, o, none⟩) hb v)

theorem there_of {w : World} {b : Nat} {t : TypeId} {f : Nat → Value} (h : w.rowIs b t 32 f) : w.there b 0 32 := fun j hj =>
  ⟨by rw [Nat.zero_add, h.cell hj]; rfl, h.frozen _⟩

theorem zeros_one : zeros.toArray.all (·.oneCell') = true := all_oneCell_toArray fun v hv => by rw [List.eq_of_mem_replicate hv]; rfl

theorem two_rows (w : World) : ((w.alloc (.cells (Array.replicate 32 (.int .u8 0)) 23)).alloc (.cells (Array.replicate 32 (.int .u8 0)) 23)).rowIs w.heap.size 23 32 (fun _ => .int .u8 0) ∧
    ((w.alloc (.cells (Array.replicate 32 (.int .u8 0)) 23)).alloc (.cells (Array.replicate 32 (.int .u8 0)) 23)).rowIs (w.heap.size + 1) 23 32 (fun _ => .int .u8 0) ∧
    ((w.alloc (.cells (Array.replicate 32 (.int .u8 0)) 23)).alloc (.cells (Array.replicate 32 (.int .u8 0)) 23)).heap.size = w.heap.size + 2 ∧
    Below w.heap.size w ((w.alloc (.cells (Array.replicate 32 (.int .u8 0)) 23)).alloc (.cells (Array.replicate 32 (.int .u8 0)) 23)) := by
  have h : ∀ W : World, (W.alloc (.cells (Array.replicate 32 (.int .u8 0)) 23)).rowIs W.heap.size 23 32 (fun _ => .int .u8 0) := fun W => by
    have := World.rowIs_alloc W (Array.replicate 32 (.int .u8 0)) 23 (fun _ => .int .u8 0) (fun i hi => by
      have hi' : i < 32 := by simpa using hi
      simp [hi'])
    simpa using this
  refine ⟨(h w).alloc _, ?_, by simp, ((Below.refl _ w).alloc (Nat.le_refl _) _).alloc (by simp) _⟩
  have := h (w.alloc (.cells (Array.replicate 32 (.int .u8 0)) 23))
  simpa using this

set_option maxHeartbeats 400000 in
theorem enc32 (w : World) : Calls Tryf.prog 15 #[.int .i64 32] w fun e w' => e = .returned (.int .i64 64) ∧ w' = w := by
  go_enter Tryf.func15, Tryf.ntmps15
  go_wp2
  go_ret
  exact ⟨rfl, rfl⟩

set_option maxHeartbeats 400000 in
theorem parse_len (F : Interp) (s : ByteArray) (w : World) (hF : F.answers w.tape) (h : ((s.size : Int) != 64) = true) :
    Calls Tryf.prog 7 #[.string s] w fun e w' => ∃ T a, e = .returned (.tuple #[.agg zeros.toArray, .iface T (.pointer (some a))]) ∧ Below w.heap.size w w' := by
  go_enter Tryf.func7, Tryf.ntmps7
  go_wp2_with fail
  refine (enc32 _).mono ?_
  rintro e w1 ⟨rfl, hw1⟩
  obtain ⟨r1, r2, r3, r4⟩ : w1.rowIs w.heap.size 23 32 (fun _ => .int .u8 0) ∧ w1.rowIs (w.heap.size + 1) 23 32 (fun _ => .int .u8 0) ∧ w1.heap.size = w.heap.size + 2 ∧ Below w.heap.size w w1 := by
    rw [hw1]; exact two_rows w
  clear hw1
  have R1 : Hid (w1.rowIs w.heap.size 23 32 (fun _ => .int .u8 0)) := r1
  have RB : Hid (Below w.heap.size w w1) := r4
  have HF : Hid (F.answers w1.tape) := by show F.answers w1.tape; rw [r4.tape]; exact hF
  have hlt : w.heap.size < w1.heap.size := by omega
  clear r1 r2 r3 r4 hF
  go_wp2_with fail
  refine (enc32 _).mono ?_
  rintro e w2 ⟨rfl, rfl⟩
  go_wp2_with fail
  refine (errorf_len F (s.size : Int) 64 w2.heap.size _ (by exact HF.out) (by go_simp) (by go_simp)).mono ?_
  rintro e w3 ⟨a, rfl, hb⟩
  have R3 : Hid (w3.there w.heap.size 0 32) := there_of ((R1.out.alloc _).of_block (hb.block _ (by simp; omega)))
  have RB3 : Hid (Below w.heap.size w w3) := (RB.out.alloc (by omega) _).trans (hb.mono (by simp; omega))
  clear hb R1 RB HF
  go_wp2_with (refine wpList_store_mid rfl 23 (.tmp 2) (.tmp 11) rfl w.heap.size 0 zeros.toArray rfl rfl R3.out size23 zeros_one ?_)
  exact bodyPost_ret (v := .tuple #[.agg zeros.toArray, .iface 46 (.pointer (some a))]) (results7 _ _ w.heap.size zeros _ rfl rfl (World.rangeAt_setCells_same w3 _ 0 zeros R3.out) rfl) rfl
    ⟨46, a, rfl, below_setCells _ (Nat.le_refl _) zeros 0 w3 RB3.out⟩

/-! ### Sixty-four bytes -/

/-- A row's cells, read out of a list of bytes. -/
def vals (D : List UInt8) : List Value := D.map fun b => .int .u8 (b.toNat : Int)

theorem vals_length (D : List UInt8) : (vals D).length = D.length := by simp [vals]

theorem vals_one (D : List UInt8) : (vals D).toArray.all (·.oneCell') = true := all_oneCell_toArray fun v hv => by
  obtain ⟨b, _, rfl⟩ := List.mem_map.1 hv
  rfl

theorem rowP_at (D : List UInt8) (j : Nat) (h : j < D.length) : some (Hx.rowP (fun _ => .int .u8 0) 0 D j) = (vals D)[j]? := by
  unfold Hx.rowP vals
  rw [if_pos ⟨Nat.zero_le _, by omega⟩, List.getElem?_map, Nat.sub_zero, List.getElem?_eq_getElem h]
  rfl

/-- encoding/hex.Decode as ParseID calls it: the shelf's contract. -/
theorem decode_at (s : ByteArray) (ev : Value) (h : s.size = 64) (b cap : Nat) (w1 : World) (hE : w1.cell? ⟨0, 0, none⟩ = some ev) (hb0 : 0 < b) (hrow : w1.rowIs b 23 32 (fun _ => .int .u8 0)) :
    Calls Tryf.prog 17 #[.slice (some ⟨b, 0, none⟩) 32 32, .slice (some ⟨w1.heap.size, 0, none⟩) 64 cap] (w1.alloc (.cells (bytesRow s cap) 5 ((bytesRow s cap).size, (bytesRow s cap).size + 1))).drew fun e w' =>
      e = .returned (.tuple #[.int .i64 ((Hx.decode s.data.toList).1.length : Int), Hx.errVal 45 ev (Hx.decode s.data.toList).2]) ∧
      w'.rowIs b 23 32 (Hx.rowP (fun _ => .int .u8 0) 0 (Hx.decode s.data.toList).1) ∧ w1.grownBy w' (some b) := by
  have hlt : b < w1.heap.size := hrow.lt
  have hB : ∀ o, Below w1.heap.size w1 (w1.alloc o).drew := fun o => ((Below.refl _ w1).alloc (Nat.le_refl _) o).drew
  have hc := Any.hex_Decode_tag Tryf.laysPa44 23 b 0 32 32 32 (fun _ => .int .u8 0) w1.heap.size 0 64 cap (Hx.numsOf s) (w1.alloc (.cells (bytesRow s cap) 5 ((bytesRow s cap).size, (bytesRow s cap).size + 1))).drew ev (by rw [Hx.numsOf_length, h]) (fun i _ => Hx.numsOf_range s i)
    (fun i hi => by
      show (w1.alloc _).cell? _ = _
      rw [Nat.zero_add, World.cell?_alloc_mark, bytesRow_at s _ i (by show i < s.size; omega), Hx.numsOf_at s i (by show i < s.size; omega)])
    ((hrow.alloc _).drew) (by omega) (by omega) (by omega) (by omega) (((hB _).cell (p := ⟨0, 0, none⟩) (by show 0 < w1.heap.size; omega)).trans hE) (by show 0 ≠ b; omega)
  rw [Hx.bytesOf_numsOf] at hc
  refine hc.mono ?_
  rintro e w' ⟨rfl, hr, hg⟩
  exact ⟨rfl, hr, hg.os, hg.tape, hg.output, Nat.le_trans (hB _).size hg.size, fun k hk hne => (hg.block k (Nat.lt_of_lt_of_le hk (hB _).size) hne).trans ((hB _).block k hk)⟩

/-- What the two ways of 64 bytes share: the world behind Decode. -/
theorem behind {w w1 w2 : World} (hB : Below w.heap.size w w1) (hg : w1.grownBy w2 (some (w.heap.size + 1))) (hs : w1.heap.size = w.heap.size + 2) (hr : w1.rowIs w.heap.size 23 32 (fun _ => .int .u8 0)) :
    Below w.heap.size w w2 ∧ w2.rowIs w.heap.size 23 32 (fun _ => .int .u8 0) ∧ w.heap.size < w2.heap.size :=
  ⟨hB.grown hg (by omega) (fun k hk => by cases hk; omega), hr.of_block (hg.block _ (by omega) (by simp)), by have := hg.size; omega⟩

set_option maxHeartbeats 400000 in
theorem parse_ok (s : ByteArray) (ev : Value) (w : World) (h : s.size = 64) (hE : w.cell? ⟨0, 0, none⟩ = some ev) (hx : allHex s.data.toList = true) :
    Calls Tryf.prog 7 #[.string s] w fun e w' => e = .returned (.tuple #[.agg (vals (Hx.decode s.data.toList).1).toArray, .nilIface]) ∧ Below w.heap.size w w' := by
  have hne : ((s.size : Int) != 64) = false := by rw [h]; rfl
  have hcv := fun w => run_bytes_of_string (P := Tryf.prog) w 9 36 5 s Tryf.underlying9 Tryf.underlying36 Tryf.underlying5
  have h0 : 0 < w.heap.size := World.block_lt_of_cell? w ⟨0, 0, none⟩ hE
  obtain ⟨d1, d2, _⟩ := decode_all 32 s.data.toList (by simpa using h) hx
  have hdec := decode_at s ev h
  generalize hD0 : Hx.decode s.data.toList = D at d1 d2 hdec ⊢
  obtain ⟨D1, D2⟩ := D
  simp only at d1 d2 hdec ⊢
  subst d1
  clear hD0 hx
  go_enter Tryf.func7, Tryf.ntmps7
  go_wp2_with fail
  refine (enc32 _).mono ?_
  rintro e w1 ⟨rfl, hw1⟩
  obtain ⟨r1, r2, r3, r4⟩ : w1.rowIs w.heap.size 23 32 (fun _ => .int .u8 0) ∧ w1.rowIs (w.heap.size + 1) 23 32 (fun _ => .int .u8 0) ∧ w1.heap.size = w.heap.size + 2 ∧ Below w.heap.size w w1 := by
    rw [hw1]; exact two_rows w
  clear hw1
  have hdc := fun cap => hdec (w.heap.size + 1) cap w1 ((r4.cell (p := ⟨0, 0, none⟩) h0).trans hE) (by omega) r2
  clear hdec
  have R1 : Hid (w1.rowIs w.heap.size 23 32 (fun _ => .int .u8 0)) := r1
  have RB : Hid (Below w.heap.size w w1) := r4
  have hsz : Hid (w1.heap.size = w.heap.size + 2) := r3
  have HD : Hid (D1.length = 32) := d2
  clear r1 r2 r3 r4 d2
  go_wp2_with fail
  generalize grownCap w1 64 0 5 = cap
  refine (hdc cap).mono ?_
  clear hdc hcv
  rintro e w2 ⟨rfl, hr2, hg⟩
  obtain ⟨b1, b2, b3⟩ := behind RB.out hg hsz.out R1.out
  have RI : Hid (w2.rangeAt (w.heap.size + 1) 0 (vals D1)) := fun j v hv => by
    have hj : j < D1.length := by rw [← vals_length]; exact (List.getElem?_eq_some_iff.1 hv).1
    rw [Nat.zero_add, hr2.cell (by rw [← HD.out]; exact hj), rowP_at D1 j hj, hv]
  have RT : Hid (w2.there w.heap.size 0 32) := there_of b2
  have RB2 : Hid (Below w.heap.size w w2) := b1
  clear b1 b2 hr2 hg RB hsz R1
  simp only [Hx.errVal]
  go_wp2_with (first | (refine wpList_load_mid rfl 23 (.tmp 4) rfl (w.heap.size + 1) 0 rfl (vals D1) _ RI.out Tryf.underlying23 rfl (by rw [size23, vals_length, HD.out]) ?_) | (refine wpList_store_mid rfl 23 (.tmp 2) (.tmp 32) rfl w.heap.size 0 (vals D1).toArray rfl rfl (by simpa [vals_length, HD.out] using RT.out) (by simp [size23, vals_length, HD.out]) (vals_one D1) ?_))
  exact bodyPost_ret (v := .tuple #[.agg (vals D1).toArray, .nilIface]) (results7 _ _ w.heap.size (vals D1) _ rfl rfl (World.rangeAt_setCells_same w2 _ 0 (vals D1) (by rw [vals_length, HD.out]; exact RT.out)) (by rw [vals_length, HD.out])) rfl
    ⟨rfl, below_setCells _ (Nat.le_refl _) (vals D1) 0 w2 RB2.out⟩

set_option maxHeartbeats 800000 in
theorem parse_bad (F : Interp) (s : ByteArray) (ev : Value) (w : World) (hF : F.answers w.tape) (h : s.size = 64) (hE : w.cell? ⟨0, 0, none⟩ = some ev) (hx : allHex s.data.toList = false) :
    Calls Tryf.prog 7 #[.string s] w fun e w' => ∃ T a, e = .returned (.tuple #[.agg zeros.toArray, .iface T (.pointer (some a))]) ∧ Below w.heap.size w w' := by
  have hne : ((s.size : Int) != 64) = false := by rw [h]; rfl
  have hcv := fun w => run_bytes_of_string (P := Tryf.prog) w 9 36 5 s Tryf.underlying9 Tryf.underlying36 Tryf.underlying5
  have h0 : 0 < w.heap.size := World.block_lt_of_cell? w ⟨0, 0, none⟩ hE
  obtain ⟨c, d1⟩ := decode_some 32 s.data.toList (by simpa using h) hx
  have hdec := decode_at s ev h
  generalize hD0 : Hx.decode s.data.toList = D at d1 hdec
  obtain ⟨D1, D2⟩ := D
  simp only at d1 hdec
  subst d1
  clear hD0 hx
  go_enter Tryf.func7, Tryf.ntmps7
  go_wp2_with fail
  refine (enc32 _).mono ?_
  rintro e w1 ⟨rfl, hw1⟩
  obtain ⟨r1, r2, r3, r4⟩ : w1.rowIs w.heap.size 23 32 (fun _ => .int .u8 0) ∧ w1.rowIs (w.heap.size + 1) 23 32 (fun _ => .int .u8 0) ∧ w1.heap.size = w.heap.size + 2 ∧ Below w.heap.size w w1 := by
    rw [hw1]; exact two_rows w
  clear hw1
  have hdc := fun cap => hdec (w.heap.size + 1) cap w1 ((r4.cell (p := ⟨0, 0, none⟩) h0).trans hE) (by omega) r2
  clear hdec
  have R1 : Hid (w1.rowIs w.heap.size 23 32 (fun _ => .int .u8 0)) := r1
  have RB : Hid (Below w.heap.size w w1) := r4
  have hsz : Hid (w1.heap.size = w.heap.size + 2) := r3
  have HF : Hid (F.answers w.tape) := hF
  clear r1 r2 r3 r4 hF
  go_wp2_with fail
  generalize grownCap w1 64 0 5 = cap
  refine (hdc cap).mono ?_
  clear hdc hcv
  rintro e w2 ⟨rfl, hr2, hg⟩
  obtain ⟨b1, b2, b3⟩ := behind RB.out hg hsz.out R1.out
  have R2 : Hid (w2.rowIs w.heap.size 23 32 (fun _ => .int .u8 0)) := b2
  have RB2 : Hid (Below w.heap.size w w2) := b1
  have HF2 : Hid (F.answers w2.tape) := by show F.answers w2.tape; rw [b1.tape]; exact HF.out
  clear b1 b2 hr2 hg RB hsz R1 HF
  have hc255 : (c.toNat : Int) ≤ 255 := by have := c.toNat_lt; omega
  simp only [Hx.errVal]
  go_wp2_with fail
  refine (errorf_bad F (c.toNat : Int) w2.heap.size _ (by exact HF2.out) (by omega) hc255 (by go_simp)).mono ?_
  rintro e w3 ⟨a, rfl, hb⟩
  have R3 : Hid (w3.there w.heap.size 0 32) := there_of ((R2.out.alloc _).of_block (hb.block _ (by simp; omega)))
  have RB3 : Hid (Below w.heap.size w w3) := (RB2.out.alloc (by omega) _).trans (hb.mono (by simp; omega))
  clear hb R2 RB2 HF2
  go_wp2_with (refine wpList_store_mid rfl 23 (.tmp 2) (.tmp 28) rfl w.heap.size 0 zeros.toArray rfl rfl R3.out size23 zeros_one ?_)
  exact bodyPost_ret (v := .tuple #[.agg zeros.toArray, .iface 44 (.pointer (some a))]) (results7 _ _ w.heap.size zeros _ rfl rfl (World.rangeAt_setCells_same w3 _ 0 zeros R3.out) rfl) rfl
    ⟨44, a, rfl, below_setCells _ (Nat.le_refl _) zeros 0 w3 RB3.out⟩

end Go.Proofs.Qxb6002389aFmt
