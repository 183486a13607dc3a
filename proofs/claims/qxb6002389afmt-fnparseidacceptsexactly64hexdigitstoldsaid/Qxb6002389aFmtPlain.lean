/-
  SEAT b6002389aF: THE PLAIN LAW, no Go in sight: what 'Hx.decode' (the shelf's own function for encoding/hex.Decode) gives at a list of even length: all hexadecimal digits, or not.
-/
import Derived.Lib.HexFns2
namespace Go.Proofs.Qxb6002389aFmt
open Go.Lib

/-- A hexadecimal digit, either case. -/
def isHex (c : UInt8) : Bool := decide (Hx.v c ≤ 15)
def allHex (l : List UInt8) : Bool := l.all isHex

set_option maxRecDepth 100000 in
theorem hex_ranges (c : UInt8) :
    (48 ≤ c.toNat ∧ c.toNat ≤ 57 → Hx.v c = c.toNat - 48) ∧ (97 ≤ c.toNat ∧ c.toNat ≤ 102 → Hx.v c = c.toNat - 97 + 10) ∧ (65 ≤ c.toNat ∧ c.toNat ≤ 70 → Hx.v c = c.toNat - 65 + 10) ∧
      (isHex c = true ↔ (48 ≤ c.toNat ∧ c.toNat ≤ 57) ∨ (97 ≤ c.toNat ∧ c.toNat ≤ 102) ∨ (65 ≤ c.toNat ∧ c.toNat ≤ 70)) := by
  have k : ∀ n : Fin 256, (48 ≤ (UInt8.ofNat n.val).toNat ∧ (UInt8.ofNat n.val).toNat ≤ 57 → Hx.v (UInt8.ofNat n.val) = (UInt8.ofNat n.val).toNat - 48) ∧
      (97 ≤ (UInt8.ofNat n.val).toNat ∧ (UInt8.ofNat n.val).toNat ≤ 102 → Hx.v (UInt8.ofNat n.val) = (UInt8.ofNat n.val).toNat - 97 + 10) ∧
      (65 ≤ (UInt8.ofNat n.val).toNat ∧ (UInt8.ofNat n.val).toNat ≤ 70 → Hx.v (UInt8.ofNat n.val) = (UInt8.ofNat n.val).toNat - 65 + 10) ∧
      (isHex (UInt8.ofNat n.val) = true ↔ (48 ≤ (UInt8.ofNat n.val).toNat ∧ (UInt8.ofNat n.val).toNat ≤ 57) ∨ (97 ≤ (UInt8.ofNat n.val).toNat ∧ (UInt8.ofNat n.val).toNat ≤ 102) ∨ (65 ≤ (UInt8.ofNat n.val).toNat ∧ (UInt8.ofNat n.val).toNat ≤ 70)) := by
    decide +kernel
  have := k ⟨c.toNat, c.toNat_lt⟩
  simpa using this

theorem decode_all : ∀ (n : Nat) (l : List UInt8), l.length = 2 * n → allHex l = true →
    (Hx.decode l).2 = .ok ∧ (Hx.decode l).1.length = n ∧ ∀ k p q, l[2 * k]? = some p → l[2 * k + 1]? = some q → (Hx.decode l).1[k]? = some (UInt8.ofNat (Hx.v p * 16 + Hx.v q))
  | 0, l, h, _ => by
    obtain rfl : l = [] := List.length_eq_zero_iff.1 (by omega)
    exact ⟨by rw [Hx.decode_nil], by rw [Hx.decode_nil]; rfl, fun k p q hp => by simp at hp⟩
  | n + 1, p :: q :: t, h, ha => by
    have ha' : isHex p = true ∧ isHex q = true ∧ allHex t = true := by simpa [allHex] using ha
    have h1 : ¬ 15 < Hx.v p := by have := of_decide_eq_true ha'.1; omega
    have h2 : ¬ 15 < Hx.v q := by have := of_decide_eq_true ha'.2.1; omega
    obtain ⟨e1, e2, e3⟩ := decode_all n t (by simp at h; omega) ha'.2.2
    rw [Hx.decode_two, if_neg h1, if_neg h2]
    refine ⟨e1, by simp [e2], fun k a b hka hkb => ?_⟩
    cases k with
    | zero =>
      obtain rfl : p = a := by simpa using hka
      obtain rfl : q = b := by simpa using hkb
      rfl
    | succ k =>
      rw [show 2 * (k + 1) = 2 * k + 1 + 1 by omega] at hka hkb
      simp only [List.getElem?_cons_succ] at hka hkb
      simpa using e3 k a b hka hkb
  | n + 1, [], h, _ => by simp at h
  | n + 1, [c], h, _ => by simp at h; omega

theorem decode_some : ∀ (n : Nat) (l : List UInt8), l.length = 2 * n → allHex l = false → ∃ c, (Hx.decode l).2 = .bad c
  | 0, l, h, ha => by
    obtain rfl : l = [] := List.length_eq_zero_iff.1 (by omega)
    simp [allHex] at ha
  | n + 1, p :: q :: t, h, ha => by
    rw [Hx.decode_two]
    by_cases h1 : 15 < Hx.v p
    · exact ⟨p, by rw [if_pos h1]⟩
    rw [if_neg h1]
    by_cases h2 : 15 < Hx.v q
    · exact ⟨q, by rw [if_pos h2]⟩
    rw [if_neg h2]
    have hp : isHex p = true := decide_eq_true (by omega)
    have hq : isHex q = true := decide_eq_true (by omega)
    have ht : allHex t = false := by
      cases e : allHex t with
      | false => rfl
      | true =>
        have e' : t.all isHex = true := e
        simp [allHex, hp, hq, e'] at ha
    exact decode_some n t (by simp at h; omega) ht
  | n + 1, [], h, _ => by simp at h
  | n + 1, [c], h, _ => by simp at h; omega

end Go.Proofs.Qxb6002389aFmt
