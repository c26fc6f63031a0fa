/-
  Floats that are exact: what a word of a * 2 ^ p reads as; a quotient that leaves nothing over; the order of such words.
-/
import Derived.Test.YtlnkieokhefkfaaGreatDoorFloat
import Derived.Laws.FloatArith
namespace ValMath
open Ieee

/-- The word of a * 2 ^ p. -/
def wordOf (neg : Bool) (a : Nat) (p : Int) : Nat := double.word neg ((p + a.log2 + 1022).toNat * 4503599627370496 + a * 2 ^ (52 - a.log2))

theorem mant (a : Nat) (ha : a ≠ 0) (hL : a.log2 ≤ 52) : 4503599627370496 ≤ a * 2 ^ (52 - a.log2) ∧ a * 2 ^ (52 - a.log2) < 9007199254740992 := by
  have hL0 : 2 ^ a.log2 ≤ a := Nat.log2_self_le ha
  have hL1 : a < 2 ^ (a.log2 + 1) := Nat.lt_log2_self
  generalize a.log2 = L at *
  refine ⟨?_, ?_⟩
  · have : 2 ^ L * 2 ^ (52 - L) ≤ a * 2 ^ (52 - L) := Nat.mul_le_mul_right _ hL0
    rw [← Nat.pow_add, show L + (52 - L) = 52 by omega] at this
    omega
  · have : a * 2 ^ (52 - L) < 2 ^ (L + 1) * 2 ^ (52 - L) := Nat.mul_lt_mul_of_pos_right hL1 (Nat.two_pow_pos _)
    rw [← Nat.pow_add, show L + 1 + (52 - L) = 53 by omega] at this
    omega

theorem least : double.leastPlace = -1074 := by decide
theorem nearest_word (neg : Bool) (a j : Nat) (p : Int) (ha : a ≠ 0) (hL : a.log2 ≤ 52) (h1 : -1022 ≤ p + a.log2) (h2 : p + a.log2 ≤ 1022) :
    double.nearest neg (a * 2 ^ j) (p - j) = wordOf neg a p := by
  obtain ⟨m0, m1⟩ := mant a ha hL
  have hb : double.binade = 4503599627370496 := by decide
  have hi : double.infRung = 9218868437227405312 := by decide
  have hf : double.fractionBits = 52 := rfl
  have e : (p + a.log2 - double.fractionBits - double.leastPlace) = p + a.log2 + 1022 := by rw [least, hf]; omega
  have h := nearest_exact double neg a j p ha hL (by rw [least, hf]; omega) (by rw [e, hb, hi, hf]; omega)
  rw [h, e, hb, hf]
  rfl
theorem nearest_zero (neg : Bool) (p : Int) : double.nearest neg 0 p = double.word neg 0 := by simp [Format.nearest]

theorem read_word (neg : Bool) (a : Nat) (p : Int) (ha : a ≠ 0) (hL : a.log2 ≤ 52) (h1 : -1022 ≤ p + a.log2) (h2 : p + a.log2 ≤ 1022) :
    double.read (wordOf neg a p) = .number neg (a * 2 ^ (52 - a.log2)) (p + a.log2 - 52) := by
  obtain ⟨m0, m1⟩ := mant a ha hL
  have hb : double.binade = 4503599627370496 := by decide
  have hi : double.infRung = 9218868437227405312 := by decide
  have hs : double.signWeight = 9223372036854775808 := by decide
  unfold wordOf
  generalize hE : (p + a.log2 + 1022).toNat = E
  generalize a * 2 ^ (52 - a.log2) = M at *
  generalize hR : E * 4503599627370496 + M = R
  have hR1 : R < 9218868437227405312 := by omega
  have hw : double.word neg R / double.signWeight % 2 = (if neg then 1 else 0) ∧ double.word neg R % double.signWeight = R := by
    unfold Format.word
    rw [hs]
    cases neg <;> simp <;> omega
  unfold Format.read
  simp only [hw.1, hw.2]
  rw [hb, hi, least, if_neg (by omega), if_pos (by omega)]
  have e1 : 4503599627370496 + R % 4503599627370496 = M := by omega
  have e2 : R / 4503599627370496 - 1 = E := by omega
  rw [e1, e2]
  have e3 : (-1074 + (E : Int)) = p + a.log2 - 52 := by omega
  rw [e3]
  cases neg <;> simp

theorem read_zero : double.read 0 = .number false 0 (-1074) := by decide

/-- A quotient that leaves nothing over. -/
theorem div_exact (neg : Bool) (d k a : Nat) (hd : d ≠ 0) (hk : k ≠ 0) (ha : a ≠ 0) (h : 8 * d = a * k) (hdL : d.log2 ≤ 52) (hkL : k.log2 ≤ 40) (haL : a.log2 ≤ 52) (hk3 : 3 ≤ k.log2) :
    double.div (wordOf neg d 0) (wordOf false k 0) = some (wordOf neg a (-3)) := by
  obtain ⟨m0, m1⟩ := mant d hd hdL
  obtain ⟨n0, n1⟩ := mant k hk (by omega)
  have lm : (d * 2 ^ (52 - d.log2)).log2 = 52 := by rw [log2_mul_pow _ _ hd]; omega
  have ln : (k * 2 ^ (52 - k.log2)).log2 = 52 := by rw [log2_mul_pow _ _ hk]; omega
  unfold Format.div
  rw [read_word neg d 0 hd hdL (by omega) (by omega), read_word false k 0 hk (by omega) (by omega) (by omega)]
  have hf : double.fractionBits + 2 = 54 := rfl
  rw [hf]
  unfold Datum.quotient
  simp only
  rw [if_neg (by omega), lm, ln]
  have hq : (d * 2 ^ (52 - d.log2)) <<< (54 + 52 - 52) = (k * 2 ^ (52 - k.log2)) * (a * 2 ^ (51 + k.log2 - d.log2)) := by
    rw [Nat.shiftLeft_eq]
    apply Nat.eq_of_mul_eq_mul_left (show 0 < 8 by decide)
    have e1 : 8 * (d * 2 ^ (52 - d.log2) * 2 ^ (54 + 52 - 52)) = (8 * d) * 2 ^ (106 - d.log2) := by
      rw [Nat.mul_assoc d, ← Nat.pow_add, ← Nat.mul_assoc, show 52 - d.log2 + (54 + 52 - 52) = 106 - d.log2 by omega]
    have e2 : 8 * (k * 2 ^ (52 - k.log2) * (a * 2 ^ (51 + k.log2 - d.log2))) = (a * k) * (2 ^ 3 * (2 ^ (52 - k.log2) * 2 ^ (51 + k.log2 - d.log2))) := by
      generalize 2 ^ (52 - k.log2) = x
      generalize 2 ^ (51 + k.log2 - d.log2) = y
      show 8 * (k * x * (a * y)) = a * k * (8 * (x * y))
      ac_rfl
    rw [e1, e2, ← Nat.pow_add, ← Nat.pow_add, h, show 3 + (52 - k.log2 + (51 + k.log2 - d.log2)) = 106 - d.log2 by omega]
  rw [hq, Nat.mul_div_cancel_left _ (by omega), Nat.mul_mod_right]
  simp only [bne_self_eq_false, Bool.toNat_false, Nat.add_zero, Option.map_some, Bool.xor_false]
  unfold Format.write
  have e3 : 2 * (a * 2 ^ (51 + k.log2 - d.log2)) = a * 2 ^ (52 + k.log2 - d.log2) := by
    rw [show 52 + k.log2 - d.log2 = (51 + k.log2 - d.log2) + 1 by omega, Nat.pow_succ, Nat.mul_left_comm, Nat.mul_comm 2]
  rw [e3]
  have e4 : (0 + (d.log2 : Int) - 52 - (0 + (k.log2 : Int) - 52) - ((54 + 52 - 52 : Nat) : Int) - 1) = -3 - ((52 + k.log2 - d.log2 : Nat) : Int) := by omega
  rw [e4]
  simp only
  rw [nearest_word neg a _ (-3) ha haL (by omega) (by omega)]

theorem word8 : wordOf false 8 0 = 4620693217682128896 := by decide
/-- float64(n) / 8. -/
theorem of_int (neg : Bool) (a : Nat) (ha : a ≠ 0) (hL : a.log2 ≤ 52) : double.nearest neg a 0 = wordOf neg a 0 := by
  have h := nearest_word neg a 0 0 ha hL (by omega) (by omega)
  simpa using h
theorem div8_exact (neg : Bool) (a : Nat) (ha : a ≠ 0) (hL : a.log2 ≤ 52) : double.div (wordOf neg a 0) (wordOf false 8 0) = some (wordOf neg a (-3)) :=
  div_exact neg a 8 a ha (by decide) ha (Nat.mul_comm _ _) hL (by decide) hL (by decide)
theorem div8_zero : double.div 0 (wordOf false 8 0) = some 0 := by decide

/-- A word at a rung up to infinity's is no NaN. -/
theorem read_some (neg : Bool) (r : Nat) (h : r ≤ double.infRung) : (double.read (double.word neg r)).isNaN = false := by
  have hb : double.binade = 4503599627370496 := by decide
  have hi : double.infRung = 9218868437227405312 := by decide
  have hs : double.signWeight = 9223372036854775808 := by decide
  rw [hi] at h
  have hw : double.word neg r % double.signWeight = r := by
    unfold Format.word
    rw [hs]
    cases neg <;> simp <;> omega
  unfold Format.read
  simp only [hw]
  rw [hi]
  split
  · rfl
  · split
    · rfl
    · rw [if_pos (by omega)]; rfl
theorem nearest_some (neg : Bool) (m : Nat) (p : Int) : (double.read (double.nearest neg m p)).isNaN = false := by
  unfold Format.nearest
  split
  · exact read_some neg 0 (by decide)
  · exact read_some neg _ (Nat.min_le_right _ _)
theorem div8_some (neg : Bool) (m : Nat) : ∃ r, double.div (double.nearest neg m 0) (wordOf false 8 0) = some r := by
  have h := nearest_some neg m 0
  unfold Format.div
  rw [read_word false 8 0 (by decide) (by decide) (by decide) (by decide)]
  generalize double.read (double.nearest neg m 0) = d at *
  cases d with
  | nan s t => simp [Datum.isNaN] at h
  | infinity s => exact ⟨_, rfl⟩
  | number s m i =>
    unfold Datum.quotient
    simp only
    rw [if_neg (by decide)]
    exact ⟨_, rfl⟩

/-- The order of two such words. -/
theorem signed_at (neg : Bool) (a : Nat) (hL : a.log2 ≤ 52) (base : Int) (hb : base ≤ (a.log2 : Int) - 55) : signed neg (a * 2 ^ (52 - a.log2)) (((-3 : Int) + a.log2 - 52) - base).toNat = (if neg then -((a : Int)) else (a : Int)) * ((2 ^ (-3 - base).toNat : Nat) : Int) := by
  have e : a * 2 ^ (52 - a.log2) * 2 ^ (((-3 : Int) + a.log2 - 52) - base).toNat = a * 2 ^ (-3 - base).toNat := by
    rw [Nat.mul_assoc, ← Nat.pow_add]
    congr 2
    omega
  unfold signed
  rw [Nat.shiftLeft_eq, e]
  cases neg <;> simp [Int.neg_mul]
theorem cmp_eq (x y : Int) : compare x y = .eq ↔ x = y := by
  show compareOfLessAndEq x y = .eq ↔ x = y
  unfold compareOfLessAndEq
  split
  · simp; omega
  · split
    · simp; omega
    · simp; omega
theorem order_words (n1 n2 : Bool) (a b : Nat) (ha : a ≠ 0) (hb : b ≠ 0) (hL : a.log2 ≤ 49) (hM : b.log2 ≤ 49) :
    ∃ K : Nat, 0 < K ∧ double.order (wordOf n1 a (-3)) (wordOf n2 b (-3)) = some (compare ((if n1 then -((a : Int)) else (a : Int)) * (K : Int)) ((if n2 then -((b : Int)) else (b : Int)) * (K : Int))) := by
  unfold Format.order
  rw [read_word n1 a (-3) ha (by omega) (by omega) (by omega), read_word n2 b (-3) hb (by omega) (by omega) (by omega)]
  unfold Datum.order
  simp only
  refine ⟨_, Nat.two_pow_pos ((-3 - min ((-3 : Int) + a.log2 - 52) ((-3 : Int) + b.log2 - 52))).toNat, ?_⟩
  rw [signed_at n1 a (by omega) _ (by omega), signed_at n2 b (by omega) _ (by omega)]
theorem order_word_zero (neg : Bool) (a : Nat) (ha : a ≠ 0) (hL : a.log2 ≤ 49) :
    ∃ K : Nat, 0 < K ∧ double.order (wordOf neg a (-3)) 0 = some (compare ((if neg then -((a : Int)) else (a : Int)) * (K : Int)) 0) ∧ double.order 0 (wordOf neg a (-3)) = some (compare 0 ((if neg then -((a : Int)) else (a : Int)) * (K : Int))) := by
  unfold Format.order
  rw [read_word neg a (-3) ha (by omega) (by omega) (by omega), read_zero]
  obtain ⟨B0, hB0⟩ : ∃ B0 : Int, B0 = -1074 := ⟨_, rfl⟩
  rw [← hB0]
  unfold Datum.order
  simp only
  refine ⟨_, Nat.two_pow_pos ((-3 - B0 : Int)).toNat, ?_, ?_⟩
  · rw [show min ((-3 : Int) + a.log2 - 52) B0 = B0 by omega, signed_at neg a (by omega) B0 (by omega)]
    simp [signed]
  · rw [show min B0 ((-3 : Int) + a.log2 - 52) = B0 by omega, signed_at neg a (by omega) B0 (by omega)]
    simp [signed]
theorem order_zero : double.order 0 0 = some .eq := by decide

/-- The bits of n eighths. -/
def eBits (n : Int) : Nat := if n = 0 then 0 else wordOf (decide (n < 0)) n.natAbs (-3)
theorem log2_lt (a : Nat) (ha : a ≠ 0) (h : a < 562949953421312) : a.log2 < 49 := (Nat.log2_lt ha).2 h
theorem sign_abs (n : Int) : (if decide (n < 0) then -((n.natAbs : Int)) else (n.natAbs : Int)) = n := by
  by_cases h : n < 0 <;> simp [h] <;> omega
theorem order_eighths (n m : Int) (hn : n.natAbs < 562949953421312) (hm : m.natAbs < 562949953421312) : ∃ o, double.order (eBits n) (eBits m) = some o ∧ (o = .eq ↔ n = m) := by
  unfold eBits
  by_cases h0 : n = 0 <;> by_cases h1 : m = 0
  · rw [if_pos h0, if_pos h1]; exact ⟨_, order_zero, by simp [h0, h1]⟩
  · rw [if_pos h0, if_neg h1]
    obtain ⟨K, hK, _, e⟩ := order_word_zero (decide (m < 0)) m.natAbs (by omega) (by have := log2_lt m.natAbs (by omega) hm; omega)
    rw [e, sign_abs]
    refine ⟨_, rfl, ?_⟩
    rw [cmp_eq]
    constructor
    · intro h
      have := Int.mul_ne_zero h1 (show (K : Int) ≠ 0 by omega)
      omega
    · intro h; omega
  · rw [if_neg h0, if_pos h1]
    obtain ⟨K, hK, e, _⟩ := order_word_zero (decide (n < 0)) n.natAbs (by omega) (by have := log2_lt n.natAbs (by omega) hn; omega)
    rw [e, sign_abs]
    refine ⟨_, rfl, ?_⟩
    rw [cmp_eq]
    constructor
    · intro h
      have := Int.mul_ne_zero h0 (show (K : Int) ≠ 0 by omega)
      omega
    · intro h; omega
  · rw [if_neg h0, if_neg h1]
    obtain ⟨K, hK, e⟩ := order_words (decide (n < 0)) (decide (m < 0)) n.natAbs m.natAbs (by omega) (by omega) (by have := log2_lt n.natAbs (by omega) hn; omega) (by have := log2_lt m.natAbs (by omega) hm; omega)
    rw [e, sign_abs, sign_abs]
    refine ⟨_, rfl, ?_⟩
    rw [cmp_eq]
    constructor
    · intro h
      exact Int.eq_of_mul_eq_mul_right (show (K : Int) ≠ 0 by omega) h
    · intro h; rw [h]
end ValMath
