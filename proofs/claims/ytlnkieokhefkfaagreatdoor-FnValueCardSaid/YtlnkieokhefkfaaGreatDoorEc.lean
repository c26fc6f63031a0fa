/-
  The plain law of the text: the digits of the exact decimal, cut at the point, are the numeral of the whole and the digits of the eighths.
-/
import Derived.Test.YtlnkieokhefkfaaGreatDoorEb
namespace Go.Proofs.YtlnkieokhefkfaaGreatDoor
open Go.RowKit Go.Lib

theorem nDigits_ten (u : Nat) (h : 0 < u) : nDigits (10 * u) = nDigits u + 1 := by
  rw [nDigits_big (u := 10 * u) (by omega), show 10 * u / 10 = u by omega]
theorem digs_ten (u x : Nat) (h : 0 < u) (hx : x < 10) : digs (10 * u + x) = digs u ++ [((48 + x : Nat) : Int)] := by
  rw [digs_big _ (by omega), show (10 * u + x) / 10 = u by omega, show (10 * u + x) % 10 = x by omega]
theorem nDigits_pow : ∀ (k u : Nat), 0 < u → nDigits (u * 10 ^ k) = nDigits u + k
  | 0, u, _ => by simp
  | k + 1, u, h => by
    have e : u * 10 ^ (k + 1) = 10 * (u * 10 ^ k) := by rw [Nat.pow_succ, ← Nat.mul_assoc, Nat.mul_comm]
    rw [e, nDigits_ten _ (Nat.mul_pos h (Nat.pow_pos (by decide))), nDigits_pow k u h]
    omega
theorem digs_pow : ∀ (k u : Nat), 0 < u → digs (u * 10 ^ k) = digs u ++ List.replicate k 48
  | 0, u, _ => by simp
  | k + 1, u, h => by
    have e : u * 10 ^ (k + 1) = 10 * (u * 10 ^ k) + 0 := by rw [Nat.pow_succ, ← Nat.mul_assoc, Nat.mul_comm]; rfl
    rw [e, digs_ten _ 0 (Nat.mul_pos h (Nat.pow_pos (by decide))) (by decide), digs_pow k u h, List.replicate_succ', List.append_assoc]
    rfl

/-- The digits behind the point, and how many. -/
def fracN (f : Nat) : Nat := if f = 0 then 0 else if f % 2 = 1 then 3 else if f = 4 then 1 else 2
def fracV (f : Nat) : Nat := f * 10 ^ fracN f / 8
def fracText (f : Nat) : List Int := if f = 0 then [] else 46 :: digs (fracV f)

theorem frac_table : ∀ f : Fin 8, f.val ≠ 0 → 1 ≤ fracN f.val ∧ fracN f.val ≤ 3 ∧ 8 * fracV f.val = f.val * 10 ^ fracN f.val ∧ nDigits (fracV f.val) = fracN f.val ∧ fracV f.val % 10 ≠ 0 := by
  intro f h
  match f, h with
  | 1, _ => exact ⟨by decide, by decide, by decide, by show nDigits 125 = 3; exact nDigits_unique 2 125 (by decide) (by decide), by decide⟩
  | 2, _ => exact ⟨by decide, by decide, by decide, by show nDigits 25 = 2; exact nDigits_unique 1 25 (by decide) (by decide), by decide⟩
  | 3, _ => exact ⟨by decide, by decide, by decide, by show nDigits 375 = 3; exact nDigits_unique 2 375 (by decide) (by decide), by decide⟩
  | 4, _ => exact ⟨by decide, by decide, by decide, by show nDigits 5 = 1; exact nDigits_unique 0 5 (by decide) (by decide), by decide⟩
  | 5, _ => exact ⟨by decide, by decide, by decide, by show nDigits 625 = 3; exact nDigits_unique 2 625 (by decide) (by decide), by decide⟩
  | 6, _ => exact ⟨by decide, by decide, by decide, by show nDigits 75 = 2; exact nDigits_unique 1 75 (by decide) (by decide), by decide⟩
  | 7, _ => exact ⟨by decide, by decide, by decide, by show nDigits 875 = 3; exact nDigits_unique 2 875 (by decide) (by decide), by decide⟩

/-- The whole and the digits behind the point, in one. -/
theorem digs_join (I F r : Nat) (hI : 0 < I) (hr : nDigits F = r) : digs (I * 10 ^ r + F) = digs I ++ digs F ∧ nDigits (I * 10 ^ r + F) = nDigits I + r := by
  induction r generalizing F with
  | zero => have := nDigits_pos F; omega
  | succ r ih =>
    by_cases h : F < 10
    · rw [nDigits_small h] at hr
      obtain rfl : r = 0 := by omega
      rw [show I * 10 ^ (0 + 1) + F = 10 * I + F by omega, digs_ten I F hI h, digs_small F h]
      refine ⟨rfl, ?_⟩
      rw [nDigits_big (u := 10 * I + F) (by omega), show (10 * I + F) / 10 = I by omega]
    · rw [nDigits_big h] at hr
      obtain ⟨h1, h2⟩ := ih (F / 10) (by omega)
      have hp : 0 < I * 10 ^ r := Nat.mul_pos hI (Nat.pow_pos (by decide))
      have e : I * 10 ^ (r + 1) + F = 10 * (I * 10 ^ r + F / 10) + F % 10 := by
        rw [Nat.pow_succ, ← Nat.mul_assoc]
        omega
      rw [e, digs_ten _ _ (by omega) (by omega), h1, digs_big F (by omega), List.append_assoc]
      refine ⟨rfl, ?_⟩
      rw [nDigits_big (u := 10 * (I * 10 ^ r + F / 10) + F % 10) (by omega), show (10 * (I * 10 ^ r + F / 10) + F % 10) / 10 = I * 10 ^ r + F / 10 by omega, h2]
      omega

theorem cancel_pow (k q : Nat) (x y : Nat) (h : x * 10 ^ k = y * 10 ^ q) : (q ≤ k → x * 10 ^ (k - q) = y) ∧ (k ≤ q → x = y * 10 ^ (q - k)) := by
  constructor
  · intro hle
    have hp : 0 < 10 ^ q := Nat.pow_pos (by decide)
    apply Nat.eq_of_mul_eq_mul_right hp
    rw [Nat.mul_assoc, ← Nat.pow_add, Nat.sub_add_cancel hle, h]
  · intro hle
    have hp : 0 < 10 ^ k := Nat.pow_pos (by decide)
    apply Nat.eq_of_mul_eq_mul_right hp
    rw [Nat.mul_assoc, ← Nat.pow_add, Nat.sub_add_cancel hle, h]

/-- A whole number: its digits without the zeros at its end, and the zeros. -/
theorem text_whole (a d' k q : Nat) (ha : 0 < a) (h8 : 8 * (d' * 10 ^ k) = a * 10 ^ q) (hz : ¬ d' % 10 = 0) (hf : a % 8 = 0) :
    q ≤ k ∧ nDigits (d' * 10 ^ k) = nDigits (a / 8) + q ∧ nDigits d' ≤ nDigits (a / 8) ∧ digs d' ++ List.replicate (nDigits (a / 8) - nDigits d') 48 = digs (a / 8) ∧ 0 < a / 8 := by
  obtain ⟨I, rfl⟩ : ∃ I, a = 8 * I := ⟨a / 8, by omega⟩
  rw [show 8 * I / 8 = I by omega]
  have h : d' * 10 ^ k = I * 10 ^ q := by
    rw [Nat.mul_assoc] at h8
    omega
  obtain ⟨c1, c2⟩ := cancel_pow k q d' I h
  have hd : 0 < d' := by omega
  have hI : 0 < I := by omega
  have hqk : q ≤ k := by
    rcases Nat.lt_or_ge k q with hlt | hge
    · exfalso
      have := c2 (by omega)
      obtain ⟨m, hm⟩ : ∃ m, q - k = m + 1 := ⟨q - k - 1, by omega⟩
      rw [hm, Nat.pow_succ, ← Nat.mul_assoc] at this
      omega
    · exact hge
  have e := c1 hqk
  have hn := nDigits_pow (k - q) d' hd
  rw [e] at hn
  refine ⟨hqk, ?_, by omega, ?_, hI⟩
  · rw [nDigits_pow k d' hd]; omega
  · rw [show nDigits I - nDigits d' = k - q by omega, ← digs_pow (k - q) d' hd, e]

/-- A number with eighths: as many digits behind the point as it needs. -/
theorem text_frac (a d' k q : Nat) (h8 : 8 * (d' * 10 ^ k) = a * 10 ^ q) (hz : ¬ d' % 10 = 0) (hf : ¬ a % 8 = 0) :
    ∃ r, r = fracN (a % 8) ∧ q = k + r ∧ d' = a / 8 * 10 ^ r + fracV (a % 8) := by
  have h : 8 * d' * 10 ^ k = a * 10 ^ q := by rw [Nat.mul_assoc]; exact h8
  obtain ⟨c1, c2⟩ := cancel_pow k q (8 * d') a h
  have hkq : k ≤ q := by
    rcases Nat.lt_or_ge q k with hlt | hge
    · exfalso
      have := c1 (by omega)
      rw [Nat.mul_assoc] at this
      omega
    · exact hge
  have e := c2 hkq
  obtain ⟨r, hr⟩ : ∃ r, q = k + r := ⟨q - k, by omega⟩
  rw [show q - k = r by omega] at e
  obtain ⟨f, hfe⟩ : ∃ f, f = a % 8 := ⟨_, rfl⟩
  have hf8 : f < 8 := by omega
  have hr3 : r ≤ 3 := by
    rcases Nat.lt_or_ge 3 r with h4 | h4
    · exfalso
      obtain ⟨m, rfl⟩ : ∃ m, r = m + 4 := ⟨r - 4, by omega⟩
      rw [Nat.pow_add, ← Nat.mul_assoc] at e
      simp only [Nat.reducePow] at e
      omega
    · omega
  have hrf : r = fracN f := by
    unfold fracN
    rcases (show r = 0 ∨ r = 1 ∨ r = 2 ∨ r = 3 by omega) with rfl | rfl | rfl | rfl
    all_goals
      simp only [Nat.reducePow] at e
      rw [if_neg (by omega)]
      split <;> (try split) <;> omega
  have hT := frac_table ⟨f, hf8⟩ (by simp only; omega)
  simp only at hT
  refine ⟨r, by rw [← hfe]; exact hrf, hr, ?_⟩
  rw [← hfe]
  rw [← hrf] at hT
  have hT3 := hT.2.2.1
  rcases (show r = 1 ∨ r = 2 ∨ r = 3 by omega) with rfl | rfl | rfl
  all_goals
    simp only [Nat.reducePow] at e hT3 ⊢
    omega
end Go.Proofs.YtlnkieokhefkfaaGreatDoor
