import Ieee.Arith
namespace ValMath
open Ieee

theorem log2_mul_pow (a j : Nat) (ha : a ≠ 0) : (a * 2 ^ j).log2 = a.log2 + j := by
  induction j with
  | zero => simp
  | succ j ih =>
    have hpos : a * 2 ^ j ≠ 0 := by
      have := Nat.two_pow_pos j
      exact Nat.mul_ne_zero ha (by omega)
    have e : a * 2 ^ (j + 1) = 2 * (a * 2 ^ j) := by rw [Nat.pow_succ]; rw [Nat.mul_comm (2 ^ j) 2, ← Nat.mul_assoc, Nat.mul_comm a 2, Nat.mul_assoc]
    rw [e, Nat.log2_two_mul hpos, ih]
    omega

theorem cut_even_exact (neg : Bool) (c d : Nat) (hc : c ≠ 0) : Toward.even.cut neg (c * 2 ^ d) d = c := by
  have hl : d ≤ (c * 2 ^ d).log2 := by rw [log2_mul_pow c d hc]; omega
  have hp := Nat.two_pow_pos d
  unfold Toward.cut
  rw [Nat.min_eq_left (by omega), Nat.one_shiftLeft]
  have h1 : c * 2 ^ d / 2 ^ d = c := Nat.mul_div_cancel _ hp
  have h2 : c * 2 ^ d % 2 ^ d = 0 := Nat.mul_mod_left _ _
  simp only [h1, h2]
  have h3 : ¬ 2 ^ d < 2 * 0 := by omega
  have h4 : (2 ^ d == 2 * 0) = false := by simp
  simp [h3, h4]

theorem nearest_exact (f : Format) (neg : Bool) (a j : Nat) (p : Int) (ha : a ≠ 0) (hL : a.log2 ≤ f.fractionBits) (hp : f.leastPlace ≤ p + a.log2 - f.fractionBits)
    (hs : (p + a.log2 - f.fractionBits - f.leastPlace).toNat * f.binade + a * 2 ^ (f.fractionBits - a.log2) ≤ f.infRung) :
    f.nearest neg (a * 2 ^ j) (p - j) = f.word neg ((p + a.log2 - f.fractionBits - f.leastPlace).toNat * f.binade + a * 2 ^ (f.fractionBits - a.log2)) := by
  have hpos : a * 2 ^ j ≠ 0 := Nat.mul_ne_zero ha (by have := Nat.two_pow_pos j; omega)
  have hlast : max (p - j + ((a * 2 ^ j).log2 : Nat) - f.fractionBits) f.leastPlace = p + a.log2 - f.fractionBits := by
    rw [log2_mul_pow a j ha]; omega
  have hkept : Toward.even.cut neg ((a * 2 ^ j) <<< (p - j - (p + a.log2 - f.fractionBits)).toNat) ((p + a.log2 - f.fractionBits) - (p - j)).toNat = a * 2 ^ (f.fractionBits - a.log2) := by
    by_cases h : j + a.log2 ≤ f.fractionBits
    · have e1 : (p - j - (p + a.log2 - f.fractionBits) : Int).toNat = f.fractionBits - a.log2 - j := by omega
      have e2 : ((p + a.log2 - f.fractionBits) - (p - j) : Int).toNat = 0 := by omega
      rw [e1, e2, Nat.shiftLeft_eq, Nat.mul_assoc, ← Nat.pow_add]
      have e3 : j + (f.fractionBits - a.log2 - j) = f.fractionBits - a.log2 := by omega
      rw [e3]
      have := cut_even_exact neg (a * 2 ^ (f.fractionBits - a.log2)) 0 (Nat.mul_ne_zero ha (by have := Nat.two_pow_pos (f.fractionBits - a.log2); omega))
      simpa using this
    · have e1 : (p - j - (p + a.log2 - f.fractionBits) : Int).toNat = 0 := by omega
      have e2 : ((p + a.log2 - f.fractionBits) - (p - j) : Int).toNat = j + a.log2 - f.fractionBits := by omega
      rw [e1, e2, Nat.shiftLeft_zero]
      have e3 : a * 2 ^ j = (a * 2 ^ (f.fractionBits - a.log2)) * 2 ^ (j + a.log2 - f.fractionBits) := by
        rw [Nat.mul_assoc, ← Nat.pow_add]
        have : f.fractionBits - a.log2 + (j + a.log2 - f.fractionBits) = j := by omega
        rw [this]
      rw [e3]
      exact cut_even_exact neg _ _ (Nat.mul_ne_zero ha (by have := Nat.two_pow_pos (f.fractionBits - a.log2); omega))
  unfold Format.nearest
  rw [if_neg hpos]
  simp only [hlast, hkept]
  rw [Nat.min_eq_left hs]
end ValMath
