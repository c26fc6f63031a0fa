/-
  ParseFloat of a number's text gives the number: joined.
-/
import Derived.Test.YtlnkieokhefkfaaGreatDoorPj
namespace Go.Proofs.YtlnkieokhefkfaaGreatDoor
open Go.RowKit Go.Lib

theorem big_num (neg : Bool) (a : Nat) (ha2 : a < 562949953421312) (hD : 4503599627370496 ≤ numD a) (R o : Nat) (w : World) (hE : EnvP R o w) :
    Calls Tryz.prog 98 #[.int .u64 (numD a), .int .i64 (-(numR a : Int)), .int .u64 ((if neg then 9223372036854775808 else 0 : Nat) : Int)] w fun e' w' => e' = .returned (.tuple #[.float .f64 (fbits neg a), .nilIface]) ∧ Below w.heap.size w w' := by
  have h8 := numD_eq a
  have hr := numR_le a
  generalize numD a = D at *
  generalize numR a = r at *
  have hr2 : r = 2 ∨ r = 3 := by
    rcases (show r = 0 ∨ r = 1 ∨ r = 2 ∨ r = 3 by omega) with rfl | rfl | rfl | rfl
    all_goals omega
  rcases hr2 with rfl | rfl
  · have hh : 2 * D = 25 * a := by omega
    have e : (-(((2 : Nat)) : Int)) = -2 := rfl
    rw [e]
    rcases (show (4503599627370496 ≤ D ∧ D < 9007199254740992) ∨ (9007199254740992 ≤ D ∧ D < 18014398509481984) ∨ (18014398509481984 ≤ D ∧ D < 36028797018963968) ∨ (36028797018963968 ≤ D ∧ D < 72057594037927936) by omega) with ⟨h0, h1⟩ | ⟨h0, h1⟩ | ⟨h0, h1⟩ | ⟨h0, h1⟩
    · by_cases hc : a / 2 * 128 < 36028797018963966
      · exact big_53_2f neg a D ha2 hh h0 h1 hc w hE.t20 hE.t21 hE.size
      · exact big_53_2t neg a D ha2 hh h0 h1 (by omega) w hE.t20 hE.t21 hE.size
    · by_cases hc : a / 2 * 64 < 36028797018963966
      · exact big_54_2f neg a D ha2 hh h0 h1 hc w hE.t20 hE.t21 hE.size
      · exact big_54_2t neg a D ha2 hh h0 h1 (by omega) w hE.t20 hE.t21 hE.size
    · by_cases hc : a / 2 * 32 < 36028797018963966
      · exact big_55_2f neg a D ha2 hh h0 h1 hc w hE.t20 hE.t21 hE.size
      · exact big_55_2t neg a D ha2 hh h0 h1 (by omega) w hE.t20 hE.t21 hE.size
    · by_cases hc : a / 2 * 16 < 36028797018963966
      · exact big_56_2f neg a D ha2 hh h0 h1 hc w hE.t20 hE.t21 hE.size
      · exact big_56_2t neg a D ha2 hh h0 h1 (by omega) w hE.t20 hE.t21 hE.size
  · have hh : D = 125 * a := by omega
    have e : (-(((3 : Nat)) : Int)) = -3 := rfl
    rw [e]
    rcases (show (4503599627370496 ≤ D ∧ D < 9007199254740992) ∨ (9007199254740992 ≤ D ∧ D < 18014398509481984) ∨ (18014398509481984 ≤ D ∧ D < 36028797018963968) ∨ (36028797018963968 ≤ D ∧ D < 72057594037927936) by omega) with ⟨h0, h1⟩ | ⟨h0, h1⟩ | ⟨h0, h1⟩ | ⟨h0, h1⟩
    · by_cases hc : a * 512 < 36028797018963966
      · exact big_53_3f neg a D ha2 hh h0 h1 hc w hE.t30 hE.t31 hE.size
      · exact big_53_3t neg a D ha2 hh h0 h1 (by omega) w hE.t30 hE.t31 hE.size
    · by_cases hc : a * 256 < 36028797018963966
      · exact big_54_3f neg a D ha2 hh h0 h1 hc w hE.t30 hE.t31 hE.size
      · exact big_54_3t neg a D ha2 hh h0 h1 (by omega) w hE.t30 hE.t31 hE.size
    · by_cases hc : a * 128 < 36028797018963966
      · exact big_55_3f neg a D ha2 hh h0 h1 hc w hE.t30 hE.t31 hE.size
      · exact big_55_3t neg a D ha2 hh h0 h1 (by omega) w hE.t30 hE.t31 hE.size
    · by_cases hc : a * 64 < 36028797018963966
      · exact big_56_3f neg a D ha2 hh h0 h1 hc w hE.t30 hE.t31 hE.size
      · exact big_56_3t neg a D ha2 hh h0 h1 (by omega) w hE.t30 hE.t31 hE.size

theorem byte_at (ys : List Int) (h : ∀ x ∈ ys, 0 ≤ x ∧ x < 256) (i : Nat) (hi : i < (strOfNums ys).size) : ((strOfNums ys)[i]'hi).toNat = (ys[i]'(by rw [strOfNums_size] at hi; exact hi)).toNat := by
  have hl : i < ys.length := by rw [strOfNums_size] at hi; exact hi
  have hx := h ys[i] (List.getElem_mem hl)
  have e : (strOfNums ys)[i]'hi = UInt8.ofNat ys[i].toNat := by
    show (strOfNums ys).data[i] = _
    simp [strOfNums]
  rw [e]
  simp
  omega

theorem body_range (a : Nat) : ∀ c ∈ body a, c = 46 ∨ (48 ≤ c ∧ c ≤ 57) := by
  intro c hc
  unfold body at hc
  rcases List.mem_append.1 hc with hc | hc
  · exact .inr (digs_range _ c hc)
  · unfold fracText at hc
    split at hc
    · simp at hc
    · rcases List.mem_cons.1 hc with hc | hc
      · exact .inl hc
      · exact .inr (digs_range _ c hc)
theorem body_len (a : Nat) (ha : a < 562949953421312) : (body a).length ≤ 18 ∧ 0 < (body a).length := by
  have h1 := fracText_len (a % 8) (by omega)
  have h2 := nDigits_le 13 (a / 8) (by omega)
  have h3 := nDigits_pos (a / 8)
  unfold body
  rw [List.length_append, digs_length]
  omega
/-- There is but one point. -/
theorem body_dot (a : Nat) (k : Nat) (hk : k < (body a).length) (h : (body a)[k] = 46) : (readAt (body a) k).dot = false := by
  unfold readAt
  have hd : ∀ u, ∀ c ∈ digs u, c ≠ 46 := fun u c hc => by have := digs_range u c hc; omega
  refine fold_dot _ r0 rfl ?_
  unfold body at hk h ⊢
  by_cases hf : a % 8 = 0
  · rw [show fracText (a % 8) = [] from if_pos hf] at *
    intro c hc
    rw [List.append_nil] at hc
    exact hd _ c (List.mem_of_mem_take hc)
  · have hft : fracText (a % 8) = 46 :: digs (fracV (a % 8)) := if_neg hf
    have hle : k ≤ (digs (a / 8)).length := by
      rcases Nat.lt_or_ge (digs (a / 8)).length k with hlt | hge
      · exfalso
        obtain ⟨j, hj⟩ : ∃ j, k = (digs (a / 8)).length + (j + 1) := ⟨k - (digs (a / 8)).length - 1, by omega⟩
        subst hj
        rw [List.getElem_append_right (by omega)] at h
        simp only [Nat.add_sub_cancel_left, hft, List.getElem_cons_succ] at h
        exact hd _ _ (List.getElem_mem _) h
      · exact hge
    intro c hc
    rw [List.take_append_of_le_length hle] at hc
    exact hd _ c (List.mem_of_mem_take hc)

/-- The state's bounds. -/
theorem read_bounds (a : Nat) (ha : a < 562949953421312) (k : Nat) : (readAt (body a) k).m < 1000000000000000000 ∧ (readAt (body a) k).nd ≤ 18 ∧ -100 ≤ (readAt (body a) k).dp ∧ (readAt (body a) k).dp ≤ 100 := by
  obtain ⟨b1, b2, b3, b4⟩ := fold_bounds ((body a).take k) r0 (fun c hc => body_range a c (List.mem_of_mem_take hc)) (by decide)
  have hl := (body_len a ha).1
  have ht : ((body a).take k).length ≤ 18 := by rw [List.length_take]; omega
  have e1 : r0.nd = 0 := rfl
  have e2 : r0.dp = 0 := rfl
  rw [e1] at b2 b4
  rw [e2] at b3 b4
  unfold readAt
  refine ⟨?_, by omega, by omega, by omega⟩
  have : 10 ^ (List.foldl stepOf r0 (List.take k (body a))).nd ≤ 10 ^ 18 := Nat.pow_le_pow_right (by decide) (by omega)
  omega
theorem digs_first : ∀ (u : Nat), 0 < u → ∀ h : 0 < (digs u).length, (digs u)[0] ≠ 48 := by
  intro u
  induction u using Nat.strongRecOn with
  | ind u ih =>
    intro hu h
    by_cases hs : u < 10
    · have e := digs_small u hs
      simp only [e, List.getElem_cons_zero]
      omega
    · have e := digs_big u (by omega)
      have hp := nDigits_pos (u / 10)
      have hl := digs_length (u / 10)
      simp only [e]
      rw [List.getElem_append_left (by omega)]
      exact ih (u / 10) (by omega) (by omega) (by omega)
theorem body_front (a : Nat) : ∃ c0, (body a)[0]? = some c0 ∧ 48 ≤ c0 ∧ c0 ≤ 57 ∧ (c0 = 48 → ∀ h : 1 < (body a).length, (body a)[1] = 46) := by
  have h3 := nDigits_pos (a / 8)
  have hl := digs_length (a / 8)
  have h0 : (body a)[0]? = some ((digs (a / 8))[0]'(by omega)) := by
    unfold body
    rw [List.getElem?_append_left (by omega)]
    simp
  refine ⟨_, h0, (digs_range _ _ (List.getElem_mem _)).1, (digs_range _ _ (List.getElem_mem _)).2, ?_⟩
  intro h48 h1
  have hz : a / 8 = 0 := by
    rcases Nat.eq_zero_or_pos (a / 8) with h | h
    · exact h
    · exfalso
      exact digs_first (a / 8) h (by omega) h48
  unfold body at h1 ⊢
  by_cases hf : a % 8 = 0
  · rw [hz, show fracText (a % 8) = [] from if_pos hf, digs_small 0 (by decide)] at h1
    simp at h1
  · simp only [hz, show fracText (a % 8) = 46 :: digs (fracV (a % 8)) from if_neg hf, digs_small 0 (by decide)]
    rfl
end Go.Proofs.YtlnkieokhefkfaaGreatDoor
