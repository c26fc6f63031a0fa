/-
  internal/strconv.uscale where the table's word is exact and the mantissa is a multiple of 512: the product cut to its upper part, the lowest bit set where anything was left over. And the plain arithmetic of its roundings.
-/
import Derived.Test.YtlnkieokhefkfaaGreatDoorUc
namespace Go.Proofs.YtlnkieokhefkfaaGreatDoor
open Go.RowKit

/-- The product T cut behind 64 + s bits, its lowest bit set where anything was left over. -/
def usX (T s : Nat) : Nat := if T % 2 ^ (64 + s) = 0 then T / 2 ^ (64 + s) else orOne (T / 2 ^ (64 + s))

theorem usX_of (H M s T : Nat) (hs : s = 5 ∨ s = 6 ∨ s = 7 ∨ s = 8) (hM : M < 18446744073709551616) (hT : T = H * 18446744073709551616 + M) (h5 : M % 512 = 0) (h : H % 2 ^ s = 0) : usN H M s = usX T s := by
  unfold usN usX
  subst hT
  rcases hs with rfl | rfl | rfl | rfl
  all_goals
    simp only [Nat.reducePow, Nat.reduceAdd] at h ⊢
    by_cases hm : M = 0
    · subst hm
      rw [if_pos (by omega), if_pos (by omega)]
      omega
    · rw [if_neg (by omega), if_neg (by omega)]
      congr 1
      omega
theorem usX_rough (H M s T : Nat) (hs : s = 5 ∨ s = 6 ∨ s = 7 ∨ s = 8) (hM : M < 18446744073709551616) (hT : T = H * 18446744073709551616 + M) (h : ¬ H % 2 ^ s = 0) : orOne (H / 2 ^ s) = usX T s := by
  unfold usX
  subst hT
  rcases hs with rfl | rfl | rfl | rfl
  all_goals
    simp only [Nat.reducePow, Nat.reduceAdd] at h ⊢
    rw [if_neg (by omega)]
    congr 1
    omega

theorem uscale_exact (x hi s b : Nat) (h5 : x % 512 = 0) (hx : x < 18446744073709551616) (hhi : hi < 18446744073709551616) (hs : s = 5 ∨ s = 6 ∨ s = 7 ∨ s = 8) (w : World)
    (hb : Blk w b 151 #[.int .u64 hi, .int .u64 0, .int .i64 s]) :
    Calls Tryz.prog 105 #[.int .u64 x, .pointer (some ⟨b, 0, none⟩)] w fun e w' => e = .returned (.int .u64 (usX (x * hi) s : Nat)) ∧ ∃ n, w' = w.drewN n := by
  have c0 : w.cell? ⟨b, 0, none⟩ = some (.int .u64 hi) := by simpa using hb.cell 0
  have c1 : w.cell? ⟨b, 1, none⟩ = some (.int .u64 (0 : Nat)) := by simpa using hb.cell 1
  have c2 : w.cell? ⟨b, 2, none⟩ = some (.int .i64 s) := by simpa using hb.cell 2
  have hH : x * hi / 18446744073709551616 < 18446744073709551616 := by
    rw [Nat.div_lt_iff_lt_mul (by omega)]
    exact Nat.mul_lt_mul'' hx hhi
  have hdm := Nat.div_add_mod (x * hi) 18446744073709551616
  have hM : x * hi % 18446744073709551616 < 18446744073709551616 := Nat.mod_lt _ (by omega)
  have hm5 : x * hi % 18446744073709551616 % 512 = 0 := by
    obtain ⟨y, rfl⟩ : ∃ y, x = 512 * y := ⟨x / 512, by omega⟩
    have : 512 * y * hi = 512 * (y * hi) := Nat.mul_assoc _ _ _
    rw [this]
    omega
  generalize hHe : x * hi / 18446744073709551616 = H at *
  generalize hMe : x * hi % 18446744073709551616 = M at *
  have e1 : x * hi = H * 18446744073709551616 + M := by omega
  by_cases hr : H % 2 ^ s = 0
  · refine (uscale_even x hi 0 H M 0 0 s b hs hx hhi (by omega) hH e1 hM (by omega) (by omega) (by omega) w c0 c1 c2 hr).mono ?_
    rintro e w' ⟨rfl, n, rfl⟩
    refine ⟨?_, n, rfl⟩
    rw [Nat.sub_zero, usX_of H M s _ hs hM e1 hm5 hr]
  · refine (uscale_rough x hi H M s b hs hx hhi hH e1 hM w c0 c2 hr).mono ?_
    rintro e w' ⟨rfl, rfl⟩
    refine ⟨?_, 0, rfl⟩
    rw [usX_rough H M s _ hs hM e1 hr]

/-- What the ceiling, the floor and the rounding of such a product say. -/
theorem orOne_ge (F : Nat) : F ≤ orOne F ∧ orOne F ≤ F + 1 ∧ orOne F % 2 = 1 := by unfold orOne; omega

theorem ceil_le (T s N o : Nat) (h : T < N * 2 ^ (66 + s)) (ho : o ≤ 1) : (usX T s + o + 3) / 4 ≤ N := by
  have hp : 2 ^ (66 + s) = 4 * 2 ^ (64 + s) := by rw [show 66 + s = (64 + s) + 2 by omega, Nat.pow_add]; omega
  rw [hp] at h
  generalize hD : 2 ^ (64 + s) = D at *
  have hF : T / D < 4 * N := by
    apply Nat.div_lt_of_lt_mul
    calc T < N * (4 * D) := h
      _ = D * (4 * N) := by rw [← Nat.mul_assoc, Nat.mul_comm N 4, Nat.mul_comm]
  unfold usX
  rw [hD]
  have := orOne_ge (T / D)
  split <;> omega
theorem ceil_ge (T s o : Nat) : T ≤ (usX T s + o + 3) / 4 * 2 ^ (66 + s) := by
  have hp : 2 ^ (66 + s) = 4 * 2 ^ (64 + s) := by rw [show 66 + s = (64 + s) + 2 by omega, Nat.pow_add]; omega
  rw [hp, ← Nat.mul_assoc]
  generalize hD : 2 ^ (64 + s) = D at *
  have hDp : 0 < D := by rw [← hD]; exact Nat.two_pow_pos _
  have hdm := Nat.div_add_mod T D
  have hml := Nat.mod_lt T hDp
  unfold usX
  rw [hD]
  have ho := orOne_ge (T / D)
  split
  · rename_i h0
    have : T / D ≤ (T / D + o + 3) / 4 * 4 := by omega
    calc T = D * (T / D) := by omega
      _ ≤ D * ((T / D + o + 3) / 4 * 4) := Nat.mul_le_mul_left _ this
      _ = _ := Nat.mul_comm _ _
  · have : T / D + 1 ≤ (orOne (T / D) + o + 3) / 4 * 4 := by omega
    calc T ≤ D * (T / D + 1) := by rw [Nat.mul_add]; omega
      _ ≤ D * ((orOne (T / D) + o + 3) / 4 * 4) := Nat.mul_le_mul_left _ this
      _ = _ := Nat.mul_comm _ _
theorem floor_ge (T s N o : Nat) (h : N * 2 ^ (66 + s) < T) (ho : o ≤ 1) : N ≤ (usX T s - o) / 4 ∧ 1 ≤ usX T s := by
  have hp : 2 ^ (66 + s) = 4 * 2 ^ (64 + s) := by rw [show 66 + s = (64 + s) + 2 by omega, Nat.pow_add]; omega
  rw [hp] at h
  generalize hD : 2 ^ (64 + s) = D at *
  have hDp : 0 < D := by rw [← hD]; exact Nat.two_pow_pos _
  have hF : 4 * N ≤ T / D := by
    rw [Nat.le_div_iff_mul_le hDp]
    have : N * (4 * D) = 4 * N * D := by rw [← Nat.mul_assoc, Nat.mul_comm N 4]
    omega
  have hdm := Nat.div_add_mod T D
  unfold usX
  rw [hD]
  have ho := orOne_ge (T / D)
  split
  · rename_i h0
    have : 4 * N ≠ T / D := by
      intro e
      rw [← e, h0] at hdm
      have : N * (4 * D) = D * (4 * N) := by rw [← Nat.mul_assoc, Nat.mul_comm N 4, Nat.mul_comm]
      omega
    omega
  · omega
theorem floor_le (T s o : Nat) : (usX T s - o) / 4 * 2 ^ (66 + s) ≤ T := by
  have hp : 2 ^ (66 + s) = 4 * 2 ^ (64 + s) := by rw [show 66 + s = (64 + s) + 2 by omega, Nat.pow_add]; omega
  rw [hp, ← Nat.mul_assoc]
  generalize hD : 2 ^ (64 + s) = D at *
  have hdm := Nat.div_add_mod T D
  have key : (usX T s - o) / 4 * 4 ≤ T / D := by
    unfold usX
    rw [hD]
    generalize T / D = F
    unfold orOne
    split <;> omega
  calc (usX T s - o) / 4 * 4 * D ≤ T / D * D := Nat.mul_le_mul_right _ key
    _ = D * (T / D) := Nat.mul_comm _ _
    _ ≤ T := by omega
theorem usX_whole (N s : Nat) : usX (N * 2 ^ (66 + s)) s = 4 * N := by
  have hp : 2 ^ (66 + s) = 4 * 2 ^ (64 + s) := by rw [show 66 + s = (64 + s) + 2 by omega, Nat.pow_add]; omega
  have hDp : 0 < 2 ^ (64 + s) := Nat.two_pow_pos _
  have e : N * 2 ^ (66 + s) = 4 * N * 2 ^ (64 + s) := by rw [hp, ← Nat.mul_assoc, Nat.mul_comm N 4]
  unfold usX
  rw [e, if_pos (Nat.mul_mod_left _ _), Nat.mul_div_cancel _ hDp]
end Go.Proofs.YtlnkieokhefkfaaGreatDoor
