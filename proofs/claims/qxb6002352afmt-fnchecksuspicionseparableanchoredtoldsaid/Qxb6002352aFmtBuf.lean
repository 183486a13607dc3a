/-
  SEAT b6002352aF: time.Duration's String writes its bytes into one block of 32 cells. 'Own b w w'': of w, in w', block b alone may have turned, and it is 32 bytes, none frozen.
-/
import Derived.WalkKit
import Derived.Deep.OwnRows
namespace Go.Proofs.Qxb6002352aFmt
open Go.RowKit

def Own (b : Nat) (w w' : World) : Prop :=
  w'.os = w.os ∧ w'.tape = w.tape ∧ w'.output = w.output ∧ w'.heap.size = w.heap.size ∧ (∀ k, k ≠ b → w'.heap[k]? = w.heap[k]?) ∧
    ∃ (t : TypeId) (zs : Nat → Int), (∀ j, 0 ≤ zs j ∧ zs j < 256) ∧ w'.rowIs b t 32 (fun j => .int .u8 (zs j))

theorem Own.set {b : Nat} {w w' : World} (h : Own b w w') (i : Nat) {z : Int} (h0 : 0 ≤ z) (h1 : z < 256) : Own b w (w'.setCell ⟨b, i, none⟩ (.int .u8 z)) := by
  obtain ⟨e1, e2, e3, e4, e5, t, zs, hz, hr⟩ := h
  refine ⟨e1, e2, e3, by simpa [World.setCell] using e4, fun k hk => (Below.heap_setCell _ _ _ _ hk).trans (e5 k hk), t, fun j => if j = i then z else zs j, fun j => ?_, (hr.set i _).congr fun j _ => ?_⟩
  · by_cases e : j = i
    · simp [e, h0, h1]
    · simp [e, hz j]
  · by_cases e : j = i <;> simp [e]

theorem Own.cell {b : Nat} {w w' : World} (h : Own b w w') {i : Nat} (hi : i < 32) : ∃ z, w'.cell? ⟨b, i, none⟩ = some (.int .u8 z) := by
  obtain ⟨_, _, _, _, _, t, zs, hz, hr⟩ := h
  exact ⟨_, hr.cell hi⟩

theorem Own.frozen {b : Nat} {w w' : World} (h : Own b w w') (i : Nat) : w'.frozen? ⟨b, i, none⟩ = false := by
  obtain ⟨_, _, _, _, _, t, zs, hz, hr⟩ := h
  exact hr.frozen i

theorem Own.here {b : Nat} {w w' : World} (h : Own b w w') : Own b w' w' := by
  obtain ⟨_, _, _, _, _, k⟩ := h
  exact ⟨rfl, rfl, rfl, rfl, fun _ _ => rfl, k⟩

theorem Own.trans {b : Nat} {w w1 w2 : World} (h : Own b w w1) (k : Own b w1 w2) : Own b w w2 := by
  obtain ⟨e1, e2, e3, e4, e5, _⟩ := h
  obtain ⟨f1, f2, f3, f4, f5, f6⟩ := k
  exact ⟨f1.trans e1, f2.trans e2, f3.trans e3, f4.trans e4, fun i hi => (f5 i hi).trans (e5 i hi), f6⟩

theorem Own.below {b : Nat} {w w' : World} (h : Own b w w') : Below b w w' := by
  obtain ⟨e1, e2, e3, e4, e5, _⟩ := h
  exact ⟨e1, e2, e3, by omega, fun k hk => e5 k (by omega)⟩

/-! ### Powers of ten -/

theorem pow_step {x : Int} {r : Nat} (h : x < 10 ^ (r + 1)) : x / 10 < 10 ^ r := by
  rw [Int.pow_succ] at h
  omega

theorem pow_pos {x : Int} {r : Nat} (h : x < 10 ^ r) (h0 : 0 < x) : 1 ≤ r := by
  cases r with
  | zero => simp at h; omega
  | succ r => omega

end Go.Proofs.Qxb6002352aFmt
