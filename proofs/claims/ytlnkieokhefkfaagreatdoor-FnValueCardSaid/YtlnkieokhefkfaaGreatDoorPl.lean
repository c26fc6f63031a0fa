/-
  ValueRead of a number's JSON gives the number's bits.
-/
import Derived.Test.YtlnkieokhefkfaaGreatDoorPk
namespace Go.Proofs.YtlnkieokhefkfaaGreatDoor
open Go.RowKit Go.Lib

theorem body_256 (a : Nat) : ∀ x ∈ body a, 0 ≤ x ∧ x < 256 := fun x hx => by have := body_range a x hx; omega
theorem neg_256 (a : Nat) : ∀ x ∈ (45 :: body a), 0 ≤ x ∧ x < 256 := by
  intro x hx
  rcases List.mem_cons.1 hx with rfl | hx
  · omega
  · exact body_256 a x hx
theorem front_at (a : Nat) (h : 0 < (body a).length) : 48 ≤ (body a)[0] ∧ (body a)[0] ≤ 57 ∧ ((body a)[0] = 48 → ∀ h : 1 < (body a).length, (body a)[1] = 46) := by
  obtain ⟨c0, h0, h1, h2, h3⟩ := body_front a
  have e : (body a)[0] = c0 := by rw [List.getElem?_eq_getElem h] at h0; exact Option.some.inj h0
  rw [e]
  exact ⟨h1, h2, h3⟩

theorem read_pos (a : Nat) (ha : a < 562949953421312) (w : World) :
    Calls Tryz.prog 87 #[.string (strOfNums (body a))] w fun e w' => e = .returned (.tuple #[.int .u64 (numD a), .int .i64 (-(numR a : Int)), .bool false, .bool false, .bool false, .int .i64 ((body a).length : Nat), .bool true]) ∧ w = w' := by
  obtain ⟨hl1, hl0⟩ := body_len a ha
  have hs := strOfNums_size (body a)
  obtain ⟨f1, f2, f3⟩ := front_at a hl0
  obtain ⟨r, hr, e1, e2, e3⟩ := body_end a
  have hR : readAt (body a) (body a).length = r := by unfold readAt; rw [List.take_length]; exact hr
  have b0 := byte_at (body a) (body_256 a) 0 (by omega)
  have h := readFloat_pos (strOfNums (body a)) (body a).length hs hl0 (by omega) (readAt (body a)) rfl (fun i _ => read_bounds a ha i)
    (fun i hi => by
      have hi' : i < (body a).length := by omega
      rw [byte_at (body a) (body_256 a) i hi, readAt_succ _ _ hi']
      exact stepOf_step _ _ (body_range a _ (List.getElem_mem hi')) (fun h => body_dot a i hi' h))
    (by rw [hR]; exact e2) _ rfl (by rw [b0]; omega) (fun h48 h2 => by
      rw [b0] at h48
      have b1 := byte_at (body a) (body_256 a) 1 (by omega)
      rw [b1, f3 (by omega) (by omega)]
      rfl) w
  rw [hR, e1] at h
  rw [e1] at e3
  rw [e3] at h
  exact h
theorem read_neg (a : Nat) (ha : a < 562949953421312) (w : World) :
    Calls Tryz.prog 87 #[.string (strOfNums (45 :: body a))] w fun e w' => e = .returned (.tuple #[.int .u64 (numD a), .int .i64 (-(numR a : Int)), .bool true, .bool false, .bool false, .int .i64 ((body a).length + 1 : Nat), .bool true]) ∧ w = w' := by
  obtain ⟨hl1, hl0⟩ := body_len a ha
  have hs : (strOfNums (45 :: body a)).size = (body a).length + 1 := by rw [strOfNums_size]; rfl
  obtain ⟨f1, f2, f3⟩ := front_at a hl0
  obtain ⟨r, hr, e1, e2, e3⟩ := body_end a
  have hR : readAt (body a) ((body a).length + 1 - 1) = r := by unfold readAt; rw [Nat.add_sub_cancel, List.take_length]; exact hr
  have b0 := byte_at (45 :: body a) (neg_256 a) 0 (by omega)
  have b1 := byte_at (45 :: body a) (neg_256 a) 1 (by omega)
  rw [List.getElem_cons_zero] at b0
  rw [List.getElem_cons_succ] at b1
  have h := readFloat_neg (strOfNums (45 :: body a)) ((body a).length + 1) hs (by omega) (by omega) (fun i => readAt (body a) (i - 1)) rfl (fun i _ => read_bounds a ha (i - 1))
    (fun i hi h1 => by
      obtain ⟨j, rfl⟩ : ∃ j, i = j + 1 := ⟨i - 1, by omega⟩
      have hi' : j < (body a).length := by omega
      have bb := byte_at (45 :: body a) (neg_256 a) (j + 1) hi
      rw [List.getElem_cons_succ] at bb
      rw [bb]
      show Step _ (readAt (body a) j) (readAt (body a) (j + 1))
      rw [readAt_succ _ _ hi']
      exact stepOf_step _ _ (body_range a _ (List.getElem_mem hi')) (fun h => body_dot a j hi' h))
    (by simp only [hR]; exact e2) _ rfl (by rw [b0]; rfl) (fun h48 h2 => by
      rw [b1] at h48
      have b2 := byte_at (45 :: body a) (neg_256 a) 2 (by omega)
      rw [List.getElem_cons_succ] at b2
      rw [b2, f3 (by omega) (by omega)]
      rfl) w
  simp only [hR] at h
  rw [e1] at h
  rw [e1] at e3
  rw [e3] at h
  exact h
theorem spec_pos (a : Nat) (ha : a < 562949953421312) (w : World) :
    Calls Tryz.prog 86 #[.string (strOfNums (body a))] w fun e w' => e = .returned (.tuple #[.float .f64 0, .int .i64 0, .bool false]) ∧ w = w' := by
  obtain ⟨hl1, hl0⟩ := body_len a ha
  have hs := strOfNums_size (body a)
  obtain ⟨f1, f2, f3⟩ := front_at a hl0
  have b0 := byte_at (body a) (body_256 a) 0 (by omega)
  exact special_pos _ (by omega) (by omega) (by rw [b0]; omega) (by rw [b0]; omega) w
theorem spec_neg (a : Nat) (ha : a < 562949953421312) (w : World) :
    Calls Tryz.prog 86 #[.string (strOfNums (45 :: body a))] w fun e w' => e = .returned (.tuple #[.float .f64 0, .int .i64 0, .bool false]) ∧ w = w' := by
  obtain ⟨hl1, hl0⟩ := body_len a ha
  have hs := strOfNums_size (body a)
  have hs2 : (strOfNums (45 :: body a)).size = (body a).length + 1 := by rw [strOfNums_size]; rfl
  obtain ⟨f1, f2, f3⟩ := front_at a hl0
  have b0 := byte_at (body a) (body_256 a) 0 (by omega)
  have b1 := byte_at (45 :: body a) (neg_256 a) 0 (by omega)
  exact special_neg _ (strOfNums (body a)) (by omega) (by omega) (by rw [b1]; rfl) (extract_cons 45 (body a)) (by omega) (by omega) (by rw [b0]; omega) (by rw [b0]; omega) w

theorem atof_num (neg : Bool) (a : Nat) (ha : a < 562949953421312) (h0 : a = 0 → neg = false) (R o : Nat) (w : World) (hE : EnvP R o w) :
    Calls Tryz.prog 66 #[.string (strOfNums (numText neg a))] w fun e w' => e = .returned (.tuple #[.float .f64 (numBits neg a), .int .i64 ((strOfNums (numText neg a)).size : Nat), .nilIface]) ∧ Below w.heap.size w w' := by
  have hbn : ∀ n : Nat, n = (strOfNums (numText neg a)).size → Calls Tryz.prog 86 #[.string (strOfNums (numText neg a))] w (fun e w' => e = .returned (.tuple #[.float .f64 0, .int .i64 0, .bool false]) ∧ w = w') → Calls Tryz.prog 87 #[.string (strOfNums (numText neg a))] w (fun e w' => e = .returned (.tuple #[.int .u64 (numD a), .int .i64 (-(numR a : Int)), .bool neg, .bool false, .bool false, .int .i64 n, .bool true]) ∧ w = w') →
      Calls Tryz.prog 66 #[.string (strOfNums (numText neg a))] w fun e w' => e = .returned (.tuple #[.float .f64 (numBits neg a), .int .i64 ((strOfNums (numText neg a)).size : Nat), .nilIface]) ∧ Below w.heap.size w w' := by
    rintro n rfl h86 h87
    by_cases hz : a = 0
    · have hn := h0 hz
      subst hz hn
      exact atof_zero _ _ w h86 h87 hE.opt
    · have hb : numBits neg a = fbits neg a := if_neg hz
      rw [hb]
      have h8 := numD_eq a
      have hD0 : 0 < numD a := by
        rcases Nat.eq_zero_or_pos (numD a) with h | h
        · have := Nat.mul_pos (show 0 < a by omega) (Nat.pow_pos (n := numR a) (show 0 < 10 by decide))
          omega
        · exact h
      have hD2 : numD a < 18446744073709551616 := by
        have h3 : 10 ^ numR a ≤ 10 ^ 3 := Nat.pow_le_pow_right (by decide) (numR_le a)
        have h4 : a * 10 ^ numR a ≤ a * 10 ^ 3 := Nat.mul_le_mul_left _ h3
        omega
      by_cases hD : numD a < 4503599627370496
      · exact atof_exact _ _ _ _ _ neg hD0 (numR_le a) w h86 h87 (exact_num neg a (by omega) ha hD R o w hE) hE.opt
      · exact atof_big _ _ _ _ _ neg hD0 (numR_le a) w h86 h87 (exact_not _ _ neg (by omega) hD2 w hE.mb) (big_num neg a ha (by omega) R o w hE) hE.opt
  cases neg
  · refine hbn (body a).length ?_ (spec_pos a ha w) (read_pos a ha w)
    rw [strOfNums_size]; rfl
  · refine hbn ((body a).length + 1) ?_ (spec_neg a ha w) (read_neg a ha w)
    rw [strOfNums_size]; rfl
theorem valueRead_num (neg : Bool) (a : Nat) (ha : a < 562949953421312) (h0 : a = 0 → neg = false) (R o : Nat) (w : World) (hE : EnvP R o w) :
    Calls Tryz.prog 9 #[.string (strOfNums (34 :: (numText neg a ++ [34])))] w fun e w' => e = .returned (.tuple #[.int .u64 (numBits neg a), .bool true]) ∧ Below w.heap.size w w' :=
  valueRead_of _ _ _ rfl (Nat.le_trans (numText_len neg a ha) (by decide)) (numText_range neg a) w fun W hW =>
    sparse_of _ _ W (iparse_of _ _ W (prefix_of _ _ _ W (atof_num neg a ha h0 R o W (hE.below hW))))
end Go.Proofs.YtlnkieokhefkfaaGreatDoor
