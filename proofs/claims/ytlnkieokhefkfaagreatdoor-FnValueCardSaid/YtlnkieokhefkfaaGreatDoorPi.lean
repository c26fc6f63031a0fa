/-
  The plain law of reading: where readFloat stands behind a number's text.
-/
import Derived.Test.YtlnkieokhefkfaaGreatDoorPh
namespace Go.Proofs.YtlnkieokhefkfaaGreatDoor
open Go.RowKit Go.Lib

def stepOf (r : Read) (c : Int) : Read :=
  if c = 46 then { r with dot := true, dp := r.nd }
  else if c = 48 ∧ r.nd = 0 then { r with dp := r.dp - 1, saw := true }
  else { r with m := r.m * 10 + (c.toNat - 48), nd := r.nd + 1, saw := true }
def r0 : Read := ⟨0, 0, 0, false, false⟩
def readAt (xs : List Int) (k : Nat) : Read := (xs.take k).foldl stepOf r0

theorem stepOf_step (r : Read) (c : Int) (h : c = 46 ∨ (48 ≤ c ∧ c ≤ 57)) (hd : c = 46 → r.dot = false) : Step c.toNat r (stepOf r c) := by
  unfold stepOf
  by_cases h1 : c = 46
  · rw [if_pos h1]
    exact .dot (by omega) (hd h1) rfl
  · rw [if_neg h1]
    by_cases h2 : c = 48 ∧ r.nd = 0
    · rw [if_pos h2]
      exact .zero (by omega) h2.2 rfl
    · rw [if_neg h2]
      exact .digit (by omega) (by omega) (fun h3 => by
        rcases Nat.eq_zero_or_pos r.nd with h4 | h4
        · exact absurd ⟨by omega, h4⟩ h2
        · exact h4) rfl
theorem readAt_succ (xs : List Int) (k : Nat) (h : k < xs.length) : readAt xs (k + 1) = stepOf (readAt xs k) xs[k] := by
  unfold readAt
  rw [List.take_succ_eq_append_getElem h, List.foldl_append]
  rfl

theorem fold_bounds (ys : List Int) : ∀ (r : Read), (∀ c ∈ ys, c = 46 ∨ (48 ≤ c ∧ c ≤ 57)) → r.m < 10 ^ r.nd → (ys.foldl stepOf r).m < 10 ^ (ys.foldl stepOf r).nd ∧ (ys.foldl stepOf r).nd ≤ r.nd + ys.length ∧ -(ys.length : Int) + min r.dp 0 ≤ (ys.foldl stepOf r).dp ∧ (ys.foldl stepOf r).dp ≤ max r.dp (r.nd + ys.length) := by
  induction ys with
  | nil => intro r _ h; simp; exact ⟨h, by omega, by omega⟩
  | cons c ys ih =>
    intro r hc h
    have h1 := hc c (by simp)
    have hs : (stepOf r c).m < 10 ^ (stepOf r c).nd ∧ (stepOf r c).nd ≤ r.nd + 1 ∧ r.nd ≤ (stepOf r c).nd ∧ min r.dp 0 - 1 ≤ (stepOf r c).dp ∧ (stepOf r c).dp ≤ max r.dp r.nd := by
      unfold stepOf
      split
      · exact ⟨h, by simp, by simp, by simp only; omega, by simp only; omega⟩
      · split
        · exact ⟨h, by simp, by simp, by simp only; omega, by simp only; omega⟩
        · refine ⟨?_, by simp, by simp, by simp only; omega, by simp only; omega⟩
          simp only [Nat.pow_succ]
          omega
    obtain ⟨i1, i2, i3, i4⟩ := ih (stepOf r c) (fun d hd => hc d (by simp [hd])) hs.1
    rw [List.foldl_cons]
    simp only [List.length_cons]
    exact ⟨i1, by omega, by omega, by omega⟩
theorem fold_dot (ys : List Int) : ∀ (r : Read), r.dot = false → (∀ c ∈ ys, c ≠ 46) → (ys.foldl stepOf r).dot = false := by
  induction ys with
  | nil => intro r h _; exact h
  | cons c ys ih =>
    intro r h hc
    rw [List.foldl_cons]
    refine ih _ ?_ (fun d hd => hc d (by simp [hd]))
    unfold stepOf
    rw [if_neg (hc c (by simp))]
    split <;> exact h

theorem fold_digs : ∀ (u : Nat) (r : Read), (0 < r.nd ∨ (r.nd = 0 ∧ 0 < u)) → (digs u).foldl stepOf r = { r with m := r.m * 10 ^ nDigits u + u, nd := r.nd + nDigits u, saw := true } := by
  intro u
  induction u using Nat.strongRecOn with
  | ind u ih =>
    intro r h
    by_cases hs : u < 10
    · rw [digs_small u hs, nDigits_small hs]
      simp only [List.foldl_cons, List.foldl_nil]
      unfold stepOf
      rw [if_neg (by omega), if_neg (by omega)]
      simp
      omega
    · have hb : 10 ≤ u := by omega
      rw [digs_big u hb, List.foldl_append, ih (u / 10) (by omega) r (by omega), nDigits_big hs]
      have hp := nDigits_pos (u / 10)
      simp only [List.foldl_cons, List.foldl_nil]
      unfold stepOf
      rw [if_neg (by omega), if_neg (by simp only; omega)]
      simp only [Nat.pow_succ]
      have e : (r.m * 10 ^ nDigits (u / 10) + u / 10) * 10 + (((48 + u % 10 : Nat) : Int).toNat - 48) = r.m * (10 ^ nDigits (u / 10) * 10) + u := by
        rw [← Nat.mul_assoc, Nat.add_mul]
        omega
      rw [e, Nat.add_assoc]

def numR (a : Nat) : Nat := fracN (a % 8)
def numD (a : Nat) : Nat := a / 8 * 10 ^ numR a + fracV (a % 8)
def body (a : Nat) : List Int := digs (a / 8) ++ fracText (a % 8)

theorem body_end (a : Nat) : ∃ r, (body a).foldl stepOf r0 = r ∧ r.m = numD a ∧ r.saw = true ∧ (if r.m = 0 then (0 : Int) else (if r.dot then r.dp else r.nd) - r.nd) = -(numR a : Int) := by
  unfold body
  rw [List.foldl_append]
  by_cases hf : a % 8 = 0
  · have e1 : fracText (a % 8) = [] := if_pos hf
    have e2 : numR a = 0 := by unfold numR fracN; rw [if_pos hf]
    have e3 : fracV (a % 8) = 0 := by rw [hf]; rfl
    unfold numD
    rw [e1, e2, e3, List.foldl_nil]
    by_cases hI : a / 8 = 0
    · rw [hI, digs_small 0 (by decide)]
      exact ⟨⟨0, 0, -1, false, true⟩, rfl, rfl, rfl, rfl⟩
    · exact ⟨_, fold_digs (a / 8) r0 (.inr ⟨rfl, by omega⟩), by simp [r0], rfl, by simp [r0]⟩
  · have hT := frac_table ⟨a % 8, by omega⟩ hf
    simp only at hT
    have e1 : fracText (a % 8) = 46 :: digs (fracV (a % 8)) := if_neg hf
    have hF : 0 < fracV (a % 8) := by omega
    rw [e1, List.foldl_cons]
    unfold numD numR
    rw [← hT.2.2.2.1]
    by_cases hI : a / 8 = 0
    · have e4 : stepOf ((digs (a / 8)).foldl stepOf r0) 46 = ⟨0, 0, 0, true, true⟩ := by
        rw [hI, digs_small 0 (by decide)]
        rfl
      rw [e4]
      refine ⟨_, fold_digs (fracV (a % 8)) ⟨0, 0, 0, true, true⟩ (.inr ⟨rfl, hF⟩), by rw [hI], rfl, ?_⟩
      simp
      omega
    · have hp := nDigits_pos (a / 8)
      have e4 : stepOf ((digs (a / 8)).foldl stepOf r0) 46 = ⟨a / 8, nDigits (a / 8), nDigits (a / 8), true, true⟩ := by
        rw [fold_digs (a / 8) r0 (.inr ⟨rfl, by omega⟩)]
        unfold stepOf
        rw [if_pos rfl]
        simp [r0]
      rw [e4]
      refine ⟨_, fold_digs (fracV (a % 8)) ⟨a / 8, nDigits (a / 8), nDigits (a / 8), true, true⟩ (.inl hp), rfl, rfl, ?_⟩
      have hne : ¬ a / 8 * 10 ^ nDigits (fracV (a % 8)) + fracV (a % 8) = 0 := by omega
      simp only [if_neg hne]
      simp
      omega
end Go.Proofs.YtlnkieokhefkfaaGreatDoor
