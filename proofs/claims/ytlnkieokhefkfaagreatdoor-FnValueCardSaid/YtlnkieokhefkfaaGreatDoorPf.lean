/-
  parseFloat64 of a number of eighths with many digits: the float itself.
-/
import Derived.Test.YtlnkieokhefkfaaGreatDoorPe
namespace Go.Proofs.YtlnkieokhefkfaaGreatDoor
open Go.RowKit Go.Lib

theorem or_sign (S m : Nat) (hS : S = 0 ∨ S = 9223372036854775808) (hm : m < 9223372036854775808) : bits .or .u64 (S : Int) (m : Int) = ((S + m : Nat) : Int) := by
  rw [u64_or_nat S m (by omega) (by omega), nat_join 63 S m (by rcases hS with rfl | rfl <;> decide) hm]
theorem and_even (U : Nat) (h : U < 18446744073709551616) (he : U % 2 = 0) : bits .and .u64 (U : Int) 1 = 0 := by
  have := u64_and_nat U 1 h (by decide)
  rw [nat_mask1, he] at this
  exact this
theorem round_at (X m : Nat) (h : X < 9223372036854775808) (hm : (X + 1 + X / 4 % 2) / 4 = m) (W : World) : Calls Tryz.prog 109 #[.int .u64 (X : Int)] W fun e w' => e = .returned (.int .u64 (m : Int)) ∧ W = w' := by
  refine (round_any (X : Int) (by omega) (by omega) W).mono ?_
  rintro e w' ⟨rfl, rfl⟩
  exact ⟨ret_int (by omega), rfl⟩
theorem uscale_at (x hi lo H M M2 L2 U : Nat) (hx : x < 18446744073709551616) (hhi : hi < 18446744073709551616) (hlo : lo < 18446744073709551616) (hH : H < 18446744073709551616) (e : x * hi = H * 18446744073709551616 + M) (hM : M < 18446744073709551616)
    (e2 : x * lo = M2 * 18446744073709551616 + L2) (hL : L2 < 18446744073709551616) (hle : M2 ≤ M) (hr : H % 256 = 0) (hd : M - M2 ≤ 1) (hU : H / 256 = U) (W : World) (g : Nat) (hb : Blk W g 151 #[.int .u64 hi, .int .u64 lo, .int .i64 8]) :
    Calls Tryz.prog 105 #[.int .u64 (x : Int), .pointer (some ⟨g, 0, none⟩)] W fun e w' => e = .returned (.int .u64 (U : Nat)) ∧ ∃ n, w' = W.drewN n := by
  refine (uscale_even x hi lo H M M2 L2 8 g (by simp) hx hhi hlo hH e hM e2 hL hle W (by rw [hb.cell]; rfl) (by rw [hb.cell]; rfl) (by rw [hb.cell]; rfl) hr).mono ?_
  rintro e w' ⟨rfl, hw⟩
  refine ⟨?_, hw⟩
  unfold usN
  rw [if_pos ⟨hr, hd⟩, show (2 : Nat) ^ 8 = 256 by decide, hU]
theorem bits_or_nil (a : Nat) (h : a < 18446744073709551616) : bits .or .u64 (a : Int) 0 = (a : Int) := bits_or_zero a h

set_option maxRecDepth 100000 in
theorem big_53_2f (neg : Bool) (a D : Nat) (ha2 : a < 562949953421312) (hD : 2 * D = 25 * a) (h0 : 4503599627370496 ≤ D) (h1 : D < 9007199254740992) (hc : a / 2 * 128 < 36028797018963966) (w : World)
    (t0 : w.cell? ⟨19, ((-2 + 348 : Int).toNat) * 2, none⟩ = some (.int .u64 (11805916207174113035 : Nat))) (t1 : w.cell? ⟨19, ((-2 + 348 : Int).toNat) * 2 + 1, none⟩ = some (.int .u64 (14019525496019259228 : Nat))) (h19 : 19 < w.heap.size) :
    Calls Tryz.prog 98 #[.int .u64 D, .int .i64 (-2), .int .u64 ((if neg then 9223372036854775808 else 0 : Nat) : Int)] w fun e' w' => e' = .returned (.tuple #[.float .f64 (fbits neg a), .nilIface]) ∧ Below w.heap.size w w' := by
  obtain ⟨z, rfl⟩ : ∃ z, a = 2 * z := ⟨a / 2, by omega⟩
  obtain rfl : D = 25 * z := by omega
  have hc' : z * 128 < 36028797018963966 := by omega
  have hbl : Lib.bitLen (25 * z) = 53 := by
    rw [Lib.bitLen_shift 52 (25 * z) (by omega) (by omega), show 25 * z / 2 ^ 52 = 1 by omega]
    rfl
  have hlog : (2 * z).log2 = 48 := (Nat.log2_eq_iff (by omega)).2 ⟨by omega, by omega⟩
  have hS : (if neg then 9223372036854775808 else 0 : Nat) = 0 ∨ (if neg then 9223372036854775808 else 0 : Nat) = 9223372036854775808 := by cases neg <;> simp
  have hf : fbits neg (2 * z) = (if neg then 9223372036854775808 else 0 : Nat) + (1067 * 4503599627370496 + z * 32) := by
    unfold fbits
    rw [hlog]
    try omega
  generalize (if neg then 9223372036854775808 else 0 : Nat) = S at *
  refine parse_53_2f (25 * z) S (z * 128) (z * 128) (z * 32) (fbits neg (2 * z)) hbl h1 11805916207174113035 14019525496019259228 (by simp; omega) (and_even _ (by omega) (by omega)) ?_ (round_at _ _ (by omega) (by omega)) (or_sign S _ hS (by omega)) (fun W => pack_any S (z * 32) hS (by omega) (by omega) _ (by omega) (by omega) _ (by rw [hf]; omega) W) w t0 t1 h19 (fun W g hb => uscale_at (25 * z * 2048) 11805916207174113035 14019525496019259228 (z * 2048 * 16) (z * 2048 * 19) (25 * z * 2048 * 14019525496019259228 / 18446744073709551616) (25 * z * 2048 * 14019525496019259228 % 18446744073709551616) (z * 128) (by omega) (by omega) (by omega) (by omega) (by omega) (by omega) (by omega) (by omega) (by omega) (by omega) (by omega) (by omega) W g hb)
  exact bits_or_nil _ (by omega)

set_option maxRecDepth 100000 in
theorem big_53_2t (neg : Bool) (a D : Nat) (ha2 : a < 562949953421312) (hD : 2 * D = 25 * a) (h0 : 4503599627370496 ≤ D) (h1 : D < 9007199254740992) (hc : 36028797018963966 ≤ a / 2 * 128) (w : World)
    (t0 : w.cell? ⟨19, ((-2 + 348 : Int).toNat) * 2, none⟩ = some (.int .u64 (11805916207174113035 : Nat))) (t1 : w.cell? ⟨19, ((-2 + 348 : Int).toNat) * 2 + 1, none⟩ = some (.int .u64 (14019525496019259228 : Nat))) (h19 : 19 < w.heap.size) :
    Calls Tryz.prog 98 #[.int .u64 D, .int .i64 (-2), .int .u64 ((if neg then 9223372036854775808 else 0 : Nat) : Int)] w fun e' w' => e' = .returned (.tuple #[.float .f64 (fbits neg a), .nilIface]) ∧ Below w.heap.size w w' := by
  obtain ⟨z, rfl⟩ : ∃ z, a = 2 * z := ⟨a / 2, by omega⟩
  obtain rfl : D = 25 * z := by omega
  have hc' : 36028797018963966 ≤ z * 128 := by omega
  have hbl : Lib.bitLen (25 * z) = 53 := by
    rw [Lib.bitLen_shift 52 (25 * z) (by omega) (by omega), show 25 * z / 2 ^ 52 = 1 by omega]
    rfl
  have hlog : (2 * z).log2 = 49 := (Nat.log2_eq_iff (by omega)).2 ⟨by omega, by omega⟩
  have hS : (if neg then 9223372036854775808 else 0 : Nat) = 0 ∨ (if neg then 9223372036854775808 else 0 : Nat) = 9223372036854775808 := by cases neg <;> simp
  have hf : fbits neg (2 * z) = (if neg then 9223372036854775808 else 0 : Nat) + (1068 * 4503599627370496 + z * 16) := by
    unfold fbits
    rw [hlog]
    try omega
  generalize (if neg then 9223372036854775808 else 0 : Nat) = S at *
  refine parse_53_2t (25 * z) S (z * 128) (z * 64) (z * 16) (fbits neg (2 * z)) hbl h1 11805916207174113035 14019525496019259228 (by simp; omega) (and_even _ (by omega) (by omega)) ?_ (round_at _ _ (by omega) (by omega)) (or_sign S _ hS (by omega)) (fun W => pack_any S (z * 16) hS (by omega) (by omega) _ (by omega) (by omega) _ (by rw [hf]; omega) W) w t0 t1 h19 (fun W g hb => uscale_at (25 * z * 2048) 11805916207174113035 14019525496019259228 (z * 2048 * 16) (z * 2048 * 19) (25 * z * 2048 * 14019525496019259228 / 18446744073709551616) (25 * z * 2048 * 14019525496019259228 % 18446744073709551616) (z * 128) (by omega) (by omega) (by omega) (by omega) (by omega) (by omega) (by omega) (by omega) (by omega) (by omega) (by omega) (by omega) W g hb)
  rw [show (((z * 128 : Nat) : Int) / 2) = ((z * 64 : Nat) : Int) by omega]; exact bits_or_nil _ (by omega)

set_option maxRecDepth 100000 in
theorem big_53_3f (neg : Bool) (a D : Nat) (ha2 : a < 562949953421312) (hD : D = 125 * a) (h0 : 4503599627370496 ≤ D) (h1 : D < 9007199254740992) (hc : a * 512 < 36028797018963966) (w : World)
    (t0 : w.cell? ⟨19, ((-3 + 348 : Int).toNat) * 2, none⟩ = some (.int .u64 (9444732965739290428 : Nat))) (t1 : w.cell? ⟨19, ((-3 + 348 : Int).toNat) * 2 + 1, none⟩ = some (.int .u64 (11215620396815407382 : Nat))) (h19 : 19 < w.heap.size) :
    Calls Tryz.prog 98 #[.int .u64 D, .int .i64 (-3), .int .u64 ((if neg then 9223372036854775808 else 0 : Nat) : Int)] w fun e' w' => e' = .returned (.tuple #[.float .f64 (fbits neg a), .nilIface]) ∧ Below w.heap.size w w' := by
  obtain rfl : D = 125 * a := hD
  have hc' : a * 512 < 36028797018963966 := by omega
  have hbl : Lib.bitLen (125 * a) = 53 := by
    rw [Lib.bitLen_shift 52 (125 * a) (by omega) (by omega), show 125 * a / 2 ^ 52 = 1 by omega]
    rfl
  have hlog : (a).log2 = 45 := (Nat.log2_eq_iff (by omega)).2 ⟨by omega, by omega⟩
  have hS : (if neg then 9223372036854775808 else 0 : Nat) = 0 ∨ (if neg then 9223372036854775808 else 0 : Nat) = 9223372036854775808 := by cases neg <;> simp
  have hf : fbits neg (a) = (if neg then 9223372036854775808 else 0 : Nat) + (1064 * 4503599627370496 + a * 128) := by
    unfold fbits
    rw [hlog]
    try omega
  generalize (if neg then 9223372036854775808 else 0 : Nat) = S at *
  refine parse_53_3f (125 * a) S (a * 512) (a * 512) (a * 128) (fbits neg (a)) hbl h1 9444732965739290428 11215620396815407382 (by simp; omega) (and_even _ (by omega) (by omega)) ?_ (round_at _ _ (by omega) (by omega)) (or_sign S _ hS (by omega)) (fun W => pack_any S (a * 128) hS (by omega) (by omega) _ (by omega) (by omega) _ (by rw [hf]; omega) W) w t0 t1 h19 (fun W g hb => uscale_at (125 * a * 2048) 9444732965739290428 11215620396815407382 (a * 2048 * 64) (a * 2048 * 76) (125 * a * 2048 * 11215620396815407382 / 18446744073709551616) (125 * a * 2048 * 11215620396815407382 % 18446744073709551616) (a * 512) (by omega) (by omega) (by omega) (by omega) (by omega) (by omega) (by omega) (by omega) (by omega) (by omega) (by omega) (by omega) W g hb)
  exact bits_or_nil _ (by omega)

set_option maxRecDepth 100000 in
theorem big_53_3t (neg : Bool) (a D : Nat) (ha2 : a < 562949953421312) (hD : D = 125 * a) (h0 : 4503599627370496 ≤ D) (h1 : D < 9007199254740992) (hc : 36028797018963966 ≤ a * 512) (w : World)
    (t0 : w.cell? ⟨19, ((-3 + 348 : Int).toNat) * 2, none⟩ = some (.int .u64 (9444732965739290428 : Nat))) (t1 : w.cell? ⟨19, ((-3 + 348 : Int).toNat) * 2 + 1, none⟩ = some (.int .u64 (11215620396815407382 : Nat))) (h19 : 19 < w.heap.size) :
    Calls Tryz.prog 98 #[.int .u64 D, .int .i64 (-3), .int .u64 ((if neg then 9223372036854775808 else 0 : Nat) : Int)] w fun e' w' => e' = .returned (.tuple #[.float .f64 (fbits neg a), .nilIface]) ∧ Below w.heap.size w w' := by
  obtain rfl : D = 125 * a := hD
  have hc' : 36028797018963966 ≤ a * 512 := by omega
  have hbl : Lib.bitLen (125 * a) = 53 := by
    rw [Lib.bitLen_shift 52 (125 * a) (by omega) (by omega), show 125 * a / 2 ^ 52 = 1 by omega]
    rfl
  have hlog : (a).log2 = 46 := (Nat.log2_eq_iff (by omega)).2 ⟨by omega, by omega⟩
  have hS : (if neg then 9223372036854775808 else 0 : Nat) = 0 ∨ (if neg then 9223372036854775808 else 0 : Nat) = 9223372036854775808 := by cases neg <;> simp
  have hf : fbits neg (a) = (if neg then 9223372036854775808 else 0 : Nat) + (1065 * 4503599627370496 + a * 64) := by
    unfold fbits
    rw [hlog]
    try omega
  generalize (if neg then 9223372036854775808 else 0 : Nat) = S at *
  refine parse_53_3t (125 * a) S (a * 512) (a * 256) (a * 64) (fbits neg (a)) hbl h1 9444732965739290428 11215620396815407382 (by simp; omega) (and_even _ (by omega) (by omega)) ?_ (round_at _ _ (by omega) (by omega)) (or_sign S _ hS (by omega)) (fun W => pack_any S (a * 64) hS (by omega) (by omega) _ (by omega) (by omega) _ (by rw [hf]; omega) W) w t0 t1 h19 (fun W g hb => uscale_at (125 * a * 2048) 9444732965739290428 11215620396815407382 (a * 2048 * 64) (a * 2048 * 76) (125 * a * 2048 * 11215620396815407382 / 18446744073709551616) (125 * a * 2048 * 11215620396815407382 % 18446744073709551616) (a * 512) (by omega) (by omega) (by omega) (by omega) (by omega) (by omega) (by omega) (by omega) (by omega) (by omega) (by omega) (by omega) W g hb)
  rw [show (((a * 512 : Nat) : Int) / 2) = ((a * 256 : Nat) : Int) by omega]; exact bits_or_nil _ (by omega)

set_option maxRecDepth 100000 in
theorem big_54_2f (neg : Bool) (a D : Nat) (ha2 : a < 562949953421312) (hD : 2 * D = 25 * a) (h0 : 9007199254740992 ≤ D) (h1 : D < 18014398509481984) (hc : a / 2 * 64 < 36028797018963966) (w : World)
    (t0 : w.cell? ⟨19, ((-2 + 348 : Int).toNat) * 2, none⟩ = some (.int .u64 (11805916207174113035 : Nat))) (t1 : w.cell? ⟨19, ((-2 + 348 : Int).toNat) * 2 + 1, none⟩ = some (.int .u64 (14019525496019259228 : Nat))) (h19 : 19 < w.heap.size) :
    Calls Tryz.prog 98 #[.int .u64 D, .int .i64 (-2), .int .u64 ((if neg then 9223372036854775808 else 0 : Nat) : Int)] w fun e' w' => e' = .returned (.tuple #[.float .f64 (fbits neg a), .nilIface]) ∧ Below w.heap.size w w' := by
  obtain ⟨z, rfl⟩ : ∃ z, a = 2 * z := ⟨a / 2, by omega⟩
  obtain rfl : D = 25 * z := by omega
  have hc' : z * 64 < 36028797018963966 := by omega
  have hbl : Lib.bitLen (25 * z) = 54 := by
    rw [Lib.bitLen_shift 53 (25 * z) (by omega) (by omega), show 25 * z / 2 ^ 53 = 1 by omega]
    rfl
  have hlog : (2 * z).log2 = 49 := (Nat.log2_eq_iff (by omega)).2 ⟨by omega, by omega⟩
  have hS : (if neg then 9223372036854775808 else 0 : Nat) = 0 ∨ (if neg then 9223372036854775808 else 0 : Nat) = 9223372036854775808 := by cases neg <;> simp
  have hf : fbits neg (2 * z) = (if neg then 9223372036854775808 else 0 : Nat) + (1068 * 4503599627370496 + z * 16) := by
    unfold fbits
    rw [hlog]
    try omega
  generalize (if neg then 9223372036854775808 else 0 : Nat) = S at *
  refine parse_54_2f (25 * z) S (z * 64) (z * 64) (z * 16) (fbits neg (2 * z)) hbl h1 11805916207174113035 14019525496019259228 (by simp; omega) (and_even _ (by omega) (by omega)) ?_ (round_at _ _ (by omega) (by omega)) (or_sign S _ hS (by omega)) (fun W => pack_any S (z * 16) hS (by omega) (by omega) _ (by omega) (by omega) _ (by rw [hf]; omega) W) w t0 t1 h19 (fun W g hb => uscale_at (25 * z * 1024) 11805916207174113035 14019525496019259228 (z * 1024 * 16) (z * 1024 * 19) (25 * z * 1024 * 14019525496019259228 / 18446744073709551616) (25 * z * 1024 * 14019525496019259228 % 18446744073709551616) (z * 64) (by omega) (by omega) (by omega) (by omega) (by omega) (by omega) (by omega) (by omega) (by omega) (by omega) (by omega) (by omega) W g hb)
  exact bits_or_nil _ (by omega)

set_option maxRecDepth 100000 in
theorem big_54_2t (neg : Bool) (a D : Nat) (ha2 : a < 562949953421312) (hD : 2 * D = 25 * a) (h0 : 9007199254740992 ≤ D) (h1 : D < 18014398509481984) (hc : 36028797018963966 ≤ a / 2 * 64) (w : World)
    (t0 : w.cell? ⟨19, ((-2 + 348 : Int).toNat) * 2, none⟩ = some (.int .u64 (11805916207174113035 : Nat))) (t1 : w.cell? ⟨19, ((-2 + 348 : Int).toNat) * 2 + 1, none⟩ = some (.int .u64 (14019525496019259228 : Nat))) (h19 : 19 < w.heap.size) :
    Calls Tryz.prog 98 #[.int .u64 D, .int .i64 (-2), .int .u64 ((if neg then 9223372036854775808 else 0 : Nat) : Int)] w fun e' w' => e' = .returned (.tuple #[.float .f64 (fbits neg a), .nilIface]) ∧ Below w.heap.size w w' := by
  obtain ⟨z, rfl⟩ : ∃ z, a = 2 * z := ⟨a / 2, by omega⟩
  obtain rfl : D = 25 * z := by omega
  have hc' : 36028797018963966 ≤ z * 64 := by omega
  have hbl : Lib.bitLen (25 * z) = 54 := by
    rw [Lib.bitLen_shift 53 (25 * z) (by omega) (by omega), show 25 * z / 2 ^ 53 = 1 by omega]
    rfl
  have hlog : (2 * z).log2 = 50 := (Nat.log2_eq_iff (by omega)).2 ⟨by omega, by omega⟩
  have hS : (if neg then 9223372036854775808 else 0 : Nat) = 0 ∨ (if neg then 9223372036854775808 else 0 : Nat) = 9223372036854775808 := by cases neg <;> simp
  have hf : fbits neg (2 * z) = (if neg then 9223372036854775808 else 0 : Nat) + (1069 * 4503599627370496 + z * 8) := by
    unfold fbits
    rw [hlog]
    try omega
  generalize (if neg then 9223372036854775808 else 0 : Nat) = S at *
  refine parse_54_2t (25 * z) S (z * 64) (z * 32) (z * 8) (fbits neg (2 * z)) hbl h1 11805916207174113035 14019525496019259228 (by simp; omega) (and_even _ (by omega) (by omega)) ?_ (round_at _ _ (by omega) (by omega)) (or_sign S _ hS (by omega)) (fun W => pack_any S (z * 8) hS (by omega) (by omega) _ (by omega) (by omega) _ (by rw [hf]; omega) W) w t0 t1 h19 (fun W g hb => uscale_at (25 * z * 1024) 11805916207174113035 14019525496019259228 (z * 1024 * 16) (z * 1024 * 19) (25 * z * 1024 * 14019525496019259228 / 18446744073709551616) (25 * z * 1024 * 14019525496019259228 % 18446744073709551616) (z * 64) (by omega) (by omega) (by omega) (by omega) (by omega) (by omega) (by omega) (by omega) (by omega) (by omega) (by omega) (by omega) W g hb)
  rw [show (((z * 64 : Nat) : Int) / 2) = ((z * 32 : Nat) : Int) by omega]; exact bits_or_nil _ (by omega)

set_option maxRecDepth 100000 in
theorem big_54_3f (neg : Bool) (a D : Nat) (ha2 : a < 562949953421312) (hD : D = 125 * a) (h0 : 9007199254740992 ≤ D) (h1 : D < 18014398509481984) (hc : a * 256 < 36028797018963966) (w : World)
    (t0 : w.cell? ⟨19, ((-3 + 348 : Int).toNat) * 2, none⟩ = some (.int .u64 (9444732965739290428 : Nat))) (t1 : w.cell? ⟨19, ((-3 + 348 : Int).toNat) * 2 + 1, none⟩ = some (.int .u64 (11215620396815407382 : Nat))) (h19 : 19 < w.heap.size) :
    Calls Tryz.prog 98 #[.int .u64 D, .int .i64 (-3), .int .u64 ((if neg then 9223372036854775808 else 0 : Nat) : Int)] w fun e' w' => e' = .returned (.tuple #[.float .f64 (fbits neg a), .nilIface]) ∧ Below w.heap.size w w' := by
  obtain rfl : D = 125 * a := hD
  have hc' : a * 256 < 36028797018963966 := by omega
  have hbl : Lib.bitLen (125 * a) = 54 := by
    rw [Lib.bitLen_shift 53 (125 * a) (by omega) (by omega), show 125 * a / 2 ^ 53 = 1 by omega]
    rfl
  have hlog : (a).log2 = 46 := (Nat.log2_eq_iff (by omega)).2 ⟨by omega, by omega⟩
  have hS : (if neg then 9223372036854775808 else 0 : Nat) = 0 ∨ (if neg then 9223372036854775808 else 0 : Nat) = 9223372036854775808 := by cases neg <;> simp
  have hf : fbits neg (a) = (if neg then 9223372036854775808 else 0 : Nat) + (1065 * 4503599627370496 + a * 64) := by
    unfold fbits
    rw [hlog]
    try omega
  generalize (if neg then 9223372036854775808 else 0 : Nat) = S at *
  refine parse_54_3f (125 * a) S (a * 256) (a * 256) (a * 64) (fbits neg (a)) hbl h1 9444732965739290428 11215620396815407382 (by simp; omega) (and_even _ (by omega) (by omega)) ?_ (round_at _ _ (by omega) (by omega)) (or_sign S _ hS (by omega)) (fun W => pack_any S (a * 64) hS (by omega) (by omega) _ (by omega) (by omega) _ (by rw [hf]; omega) W) w t0 t1 h19 (fun W g hb => uscale_at (125 * a * 1024) 9444732965739290428 11215620396815407382 (a * 1024 * 64) (a * 1024 * 76) (125 * a * 1024 * 11215620396815407382 / 18446744073709551616) (125 * a * 1024 * 11215620396815407382 % 18446744073709551616) (a * 256) (by omega) (by omega) (by omega) (by omega) (by omega) (by omega) (by omega) (by omega) (by omega) (by omega) (by omega) (by omega) W g hb)
  exact bits_or_nil _ (by omega)

set_option maxRecDepth 100000 in
theorem big_54_3t (neg : Bool) (a D : Nat) (ha2 : a < 562949953421312) (hD : D = 125 * a) (h0 : 9007199254740992 ≤ D) (h1 : D < 18014398509481984) (hc : 36028797018963966 ≤ a * 256) (w : World)
    (t0 : w.cell? ⟨19, ((-3 + 348 : Int).toNat) * 2, none⟩ = some (.int .u64 (9444732965739290428 : Nat))) (t1 : w.cell? ⟨19, ((-3 + 348 : Int).toNat) * 2 + 1, none⟩ = some (.int .u64 (11215620396815407382 : Nat))) (h19 : 19 < w.heap.size) :
    Calls Tryz.prog 98 #[.int .u64 D, .int .i64 (-3), .int .u64 ((if neg then 9223372036854775808 else 0 : Nat) : Int)] w fun e' w' => e' = .returned (.tuple #[.float .f64 (fbits neg a), .nilIface]) ∧ Below w.heap.size w w' := by
  obtain rfl : D = 125 * a := hD
  have hc' : 36028797018963966 ≤ a * 256 := by omega
  have hbl : Lib.bitLen (125 * a) = 54 := by
    rw [Lib.bitLen_shift 53 (125 * a) (by omega) (by omega), show 125 * a / 2 ^ 53 = 1 by omega]
    rfl
  have hlog : (a).log2 = 47 := (Nat.log2_eq_iff (by omega)).2 ⟨by omega, by omega⟩
  have hS : (if neg then 9223372036854775808 else 0 : Nat) = 0 ∨ (if neg then 9223372036854775808 else 0 : Nat) = 9223372036854775808 := by cases neg <;> simp
  have hf : fbits neg (a) = (if neg then 9223372036854775808 else 0 : Nat) + (1066 * 4503599627370496 + a * 32) := by
    unfold fbits
    rw [hlog]
    try omega
  generalize (if neg then 9223372036854775808 else 0 : Nat) = S at *
  refine parse_54_3t (125 * a) S (a * 256) (a * 128) (a * 32) (fbits neg (a)) hbl h1 9444732965739290428 11215620396815407382 (by simp; omega) (and_even _ (by omega) (by omega)) ?_ (round_at _ _ (by omega) (by omega)) (or_sign S _ hS (by omega)) (fun W => pack_any S (a * 32) hS (by omega) (by omega) _ (by omega) (by omega) _ (by rw [hf]; omega) W) w t0 t1 h19 (fun W g hb => uscale_at (125 * a * 1024) 9444732965739290428 11215620396815407382 (a * 1024 * 64) (a * 1024 * 76) (125 * a * 1024 * 11215620396815407382 / 18446744073709551616) (125 * a * 1024 * 11215620396815407382 % 18446744073709551616) (a * 256) (by omega) (by omega) (by omega) (by omega) (by omega) (by omega) (by omega) (by omega) (by omega) (by omega) (by omega) (by omega) W g hb)
  rw [show (((a * 256 : Nat) : Int) / 2) = ((a * 128 : Nat) : Int) by omega]; exact bits_or_nil _ (by omega)

set_option maxRecDepth 100000 in
theorem big_55_2f (neg : Bool) (a D : Nat) (ha2 : a < 562949953421312) (hD : 2 * D = 25 * a) (h0 : 18014398509481984 ≤ D) (h1 : D < 36028797018963968) (hc : a / 2 * 32 < 36028797018963966) (w : World)
    (t0 : w.cell? ⟨19, ((-2 + 348 : Int).toNat) * 2, none⟩ = some (.int .u64 (11805916207174113035 : Nat))) (t1 : w.cell? ⟨19, ((-2 + 348 : Int).toNat) * 2 + 1, none⟩ = some (.int .u64 (14019525496019259228 : Nat))) (h19 : 19 < w.heap.size) :
    Calls Tryz.prog 98 #[.int .u64 D, .int .i64 (-2), .int .u64 ((if neg then 9223372036854775808 else 0 : Nat) : Int)] w fun e' w' => e' = .returned (.tuple #[.float .f64 (fbits neg a), .nilIface]) ∧ Below w.heap.size w w' := by
  obtain ⟨z, rfl⟩ : ∃ z, a = 2 * z := ⟨a / 2, by omega⟩
  obtain rfl : D = 25 * z := by omega
  have hc' : z * 32 < 36028797018963966 := by omega
  have hbl : Lib.bitLen (25 * z) = 55 := by
    rw [Lib.bitLen_shift 54 (25 * z) (by omega) (by omega), show 25 * z / 2 ^ 54 = 1 by omega]
    rfl
  have hlog : (2 * z).log2 = 50 := (Nat.log2_eq_iff (by omega)).2 ⟨by omega, by omega⟩
  have hS : (if neg then 9223372036854775808 else 0 : Nat) = 0 ∨ (if neg then 9223372036854775808 else 0 : Nat) = 9223372036854775808 := by cases neg <;> simp
  have hf : fbits neg (2 * z) = (if neg then 9223372036854775808 else 0 : Nat) + (1069 * 4503599627370496 + z * 8) := by
    unfold fbits
    rw [hlog]
    try omega
  generalize (if neg then 9223372036854775808 else 0 : Nat) = S at *
  refine parse_55_2f (25 * z) S (z * 32) (z * 32) (z * 8) (fbits neg (2 * z)) hbl h1 11805916207174113035 14019525496019259228 (by simp; omega) (and_even _ (by omega) (by omega)) ?_ (round_at _ _ (by omega) (by omega)) (or_sign S _ hS (by omega)) (fun W => pack_any S (z * 8) hS (by omega) (by omega) _ (by omega) (by omega) _ (by rw [hf]; omega) W) w t0 t1 h19 (fun W g hb => uscale_at (25 * z * 512) 11805916207174113035 14019525496019259228 (z * 512 * 16) (z * 512 * 19) (25 * z * 512 * 14019525496019259228 / 18446744073709551616) (25 * z * 512 * 14019525496019259228 % 18446744073709551616) (z * 32) (by omega) (by omega) (by omega) (by omega) (by omega) (by omega) (by omega) (by omega) (by omega) (by omega) (by omega) (by omega) W g hb)
  exact bits_or_nil _ (by omega)

set_option maxRecDepth 100000 in
theorem big_55_2t (neg : Bool) (a D : Nat) (ha2 : a < 562949953421312) (hD : 2 * D = 25 * a) (h0 : 18014398509481984 ≤ D) (h1 : D < 36028797018963968) (hc : 36028797018963966 ≤ a / 2 * 32) (w : World)
    (t0 : w.cell? ⟨19, ((-2 + 348 : Int).toNat) * 2, none⟩ = some (.int .u64 (11805916207174113035 : Nat))) (t1 : w.cell? ⟨19, ((-2 + 348 : Int).toNat) * 2 + 1, none⟩ = some (.int .u64 (14019525496019259228 : Nat))) (h19 : 19 < w.heap.size) :
    Calls Tryz.prog 98 #[.int .u64 D, .int .i64 (-2), .int .u64 ((if neg then 9223372036854775808 else 0 : Nat) : Int)] w fun e' w' => e' = .returned (.tuple #[.float .f64 (fbits neg a), .nilIface]) ∧ Below w.heap.size w w' := by
  obtain ⟨z, rfl⟩ : ∃ z, a = 2 * z := ⟨a / 2, by omega⟩
  obtain rfl : D = 25 * z := by omega
  have hc' : 36028797018963966 ≤ z * 32 := by omega
  have hbl : Lib.bitLen (25 * z) = 55 := by
    rw [Lib.bitLen_shift 54 (25 * z) (by omega) (by omega), show 25 * z / 2 ^ 54 = 1 by omega]
    rfl
  have hlog : (2 * z).log2 = 51 := (Nat.log2_eq_iff (by omega)).2 ⟨by omega, by omega⟩
  have hS : (if neg then 9223372036854775808 else 0 : Nat) = 0 ∨ (if neg then 9223372036854775808 else 0 : Nat) = 9223372036854775808 := by cases neg <;> simp
  have hf : fbits neg (2 * z) = (if neg then 9223372036854775808 else 0 : Nat) + (1070 * 4503599627370496 + z * 4) := by
    unfold fbits
    rw [hlog]
    try omega
  generalize (if neg then 9223372036854775808 else 0 : Nat) = S at *
  refine parse_55_2t (25 * z) S (z * 32) (z * 16) (z * 4) (fbits neg (2 * z)) hbl h1 11805916207174113035 14019525496019259228 (by simp; omega) (and_even _ (by omega) (by omega)) ?_ (round_at _ _ (by omega) (by omega)) (or_sign S _ hS (by omega)) (fun W => pack_any S (z * 4) hS (by omega) (by omega) _ (by omega) (by omega) _ (by rw [hf]; omega) W) w t0 t1 h19 (fun W g hb => uscale_at (25 * z * 512) 11805916207174113035 14019525496019259228 (z * 512 * 16) (z * 512 * 19) (25 * z * 512 * 14019525496019259228 / 18446744073709551616) (25 * z * 512 * 14019525496019259228 % 18446744073709551616) (z * 32) (by omega) (by omega) (by omega) (by omega) (by omega) (by omega) (by omega) (by omega) (by omega) (by omega) (by omega) (by omega) W g hb)
  rw [show (((z * 32 : Nat) : Int) / 2) = ((z * 16 : Nat) : Int) by omega]; exact bits_or_nil _ (by omega)

set_option maxRecDepth 100000 in
theorem big_55_3f (neg : Bool) (a D : Nat) (ha2 : a < 562949953421312) (hD : D = 125 * a) (h0 : 18014398509481984 ≤ D) (h1 : D < 36028797018963968) (hc : a * 128 < 36028797018963966) (w : World)
    (t0 : w.cell? ⟨19, ((-3 + 348 : Int).toNat) * 2, none⟩ = some (.int .u64 (9444732965739290428 : Nat))) (t1 : w.cell? ⟨19, ((-3 + 348 : Int).toNat) * 2 + 1, none⟩ = some (.int .u64 (11215620396815407382 : Nat))) (h19 : 19 < w.heap.size) :
    Calls Tryz.prog 98 #[.int .u64 D, .int .i64 (-3), .int .u64 ((if neg then 9223372036854775808 else 0 : Nat) : Int)] w fun e' w' => e' = .returned (.tuple #[.float .f64 (fbits neg a), .nilIface]) ∧ Below w.heap.size w w' := by
  obtain rfl : D = 125 * a := hD
  have hc' : a * 128 < 36028797018963966 := by omega
  have hbl : Lib.bitLen (125 * a) = 55 := by
    rw [Lib.bitLen_shift 54 (125 * a) (by omega) (by omega), show 125 * a / 2 ^ 54 = 1 by omega]
    rfl
  have hlog : (a).log2 = 47 := (Nat.log2_eq_iff (by omega)).2 ⟨by omega, by omega⟩
  have hS : (if neg then 9223372036854775808 else 0 : Nat) = 0 ∨ (if neg then 9223372036854775808 else 0 : Nat) = 9223372036854775808 := by cases neg <;> simp
  have hf : fbits neg (a) = (if neg then 9223372036854775808 else 0 : Nat) + (1066 * 4503599627370496 + a * 32) := by
    unfold fbits
    rw [hlog]
    try omega
  generalize (if neg then 9223372036854775808 else 0 : Nat) = S at *
  refine parse_55_3f (125 * a) S (a * 128) (a * 128) (a * 32) (fbits neg (a)) hbl h1 9444732965739290428 11215620396815407382 (by simp; omega) (and_even _ (by omega) (by omega)) ?_ (round_at _ _ (by omega) (by omega)) (or_sign S _ hS (by omega)) (fun W => pack_any S (a * 32) hS (by omega) (by omega) _ (by omega) (by omega) _ (by rw [hf]; omega) W) w t0 t1 h19 (fun W g hb => uscale_at (125 * a * 512) 9444732965739290428 11215620396815407382 (a * 512 * 64) (a * 512 * 76) (125 * a * 512 * 11215620396815407382 / 18446744073709551616) (125 * a * 512 * 11215620396815407382 % 18446744073709551616) (a * 128) (by omega) (by omega) (by omega) (by omega) (by omega) (by omega) (by omega) (by omega) (by omega) (by omega) (by omega) (by omega) W g hb)
  exact bits_or_nil _ (by omega)

set_option maxRecDepth 100000 in
theorem big_55_3t (neg : Bool) (a D : Nat) (ha2 : a < 562949953421312) (hD : D = 125 * a) (h0 : 18014398509481984 ≤ D) (h1 : D < 36028797018963968) (hc : 36028797018963966 ≤ a * 128) (w : World)
    (t0 : w.cell? ⟨19, ((-3 + 348 : Int).toNat) * 2, none⟩ = some (.int .u64 (9444732965739290428 : Nat))) (t1 : w.cell? ⟨19, ((-3 + 348 : Int).toNat) * 2 + 1, none⟩ = some (.int .u64 (11215620396815407382 : Nat))) (h19 : 19 < w.heap.size) :
    Calls Tryz.prog 98 #[.int .u64 D, .int .i64 (-3), .int .u64 ((if neg then 9223372036854775808 else 0 : Nat) : Int)] w fun e' w' => e' = .returned (.tuple #[.float .f64 (fbits neg a), .nilIface]) ∧ Below w.heap.size w w' := by
  obtain rfl : D = 125 * a := hD
  have hc' : 36028797018963966 ≤ a * 128 := by omega
  have hbl : Lib.bitLen (125 * a) = 55 := by
    rw [Lib.bitLen_shift 54 (125 * a) (by omega) (by omega), show 125 * a / 2 ^ 54 = 1 by omega]
    rfl
  have hlog : (a).log2 = 48 := (Nat.log2_eq_iff (by omega)).2 ⟨by omega, by omega⟩
  have hS : (if neg then 9223372036854775808 else 0 : Nat) = 0 ∨ (if neg then 9223372036854775808 else 0 : Nat) = 9223372036854775808 := by cases neg <;> simp
  have hf : fbits neg (a) = (if neg then 9223372036854775808 else 0 : Nat) + (1067 * 4503599627370496 + a * 16) := by
    unfold fbits
    rw [hlog]
    try omega
  generalize (if neg then 9223372036854775808 else 0 : Nat) = S at *
  refine parse_55_3t (125 * a) S (a * 128) (a * 64) (a * 16) (fbits neg (a)) hbl h1 9444732965739290428 11215620396815407382 (by simp; omega) (and_even _ (by omega) (by omega)) ?_ (round_at _ _ (by omega) (by omega)) (or_sign S _ hS (by omega)) (fun W => pack_any S (a * 16) hS (by omega) (by omega) _ (by omega) (by omega) _ (by rw [hf]; omega) W) w t0 t1 h19 (fun W g hb => uscale_at (125 * a * 512) 9444732965739290428 11215620396815407382 (a * 512 * 64) (a * 512 * 76) (125 * a * 512 * 11215620396815407382 / 18446744073709551616) (125 * a * 512 * 11215620396815407382 % 18446744073709551616) (a * 128) (by omega) (by omega) (by omega) (by omega) (by omega) (by omega) (by omega) (by omega) (by omega) (by omega) (by omega) (by omega) W g hb)
  rw [show (((a * 128 : Nat) : Int) / 2) = ((a * 64 : Nat) : Int) by omega]; exact bits_or_nil _ (by omega)

set_option maxRecDepth 100000 in
theorem big_56_2f (neg : Bool) (a D : Nat) (ha2 : a < 562949953421312) (hD : 2 * D = 25 * a) (h0 : 36028797018963968 ≤ D) (h1 : D < 72057594037927936) (hc : a / 2 * 16 < 36028797018963966) (w : World)
    (t0 : w.cell? ⟨19, ((-2 + 348 : Int).toNat) * 2, none⟩ = some (.int .u64 (11805916207174113035 : Nat))) (t1 : w.cell? ⟨19, ((-2 + 348 : Int).toNat) * 2 + 1, none⟩ = some (.int .u64 (14019525496019259228 : Nat))) (h19 : 19 < w.heap.size) :
    Calls Tryz.prog 98 #[.int .u64 D, .int .i64 (-2), .int .u64 ((if neg then 9223372036854775808 else 0 : Nat) : Int)] w fun e' w' => e' = .returned (.tuple #[.float .f64 (fbits neg a), .nilIface]) ∧ Below w.heap.size w w' := by
  obtain ⟨z, rfl⟩ : ∃ z, a = 2 * z := ⟨a / 2, by omega⟩
  obtain rfl : D = 25 * z := by omega
  have hc' : z * 16 < 36028797018963966 := by omega
  have hbl : Lib.bitLen (25 * z) = 56 := by
    rw [Lib.bitLen_shift 55 (25 * z) (by omega) (by omega), show 25 * z / 2 ^ 55 = 1 by omega]
    rfl
  have hlog : (2 * z).log2 = 51 := (Nat.log2_eq_iff (by omega)).2 ⟨by omega, by omega⟩
  have hS : (if neg then 9223372036854775808 else 0 : Nat) = 0 ∨ (if neg then 9223372036854775808 else 0 : Nat) = 9223372036854775808 := by cases neg <;> simp
  have hf : fbits neg (2 * z) = (if neg then 9223372036854775808 else 0 : Nat) + (1070 * 4503599627370496 + z * 4) := by
    unfold fbits
    rw [hlog]
    try omega
  generalize (if neg then 9223372036854775808 else 0 : Nat) = S at *
  refine parse_56_2f (25 * z) S (z * 16) (z * 16) (z * 4) (fbits neg (2 * z)) hbl h1 11805916207174113035 14019525496019259228 (by simp; omega) (and_even _ (by omega) (by omega)) ?_ (round_at _ _ (by omega) (by omega)) (or_sign S _ hS (by omega)) (fun W => pack_any S (z * 4) hS (by omega) (by omega) _ (by omega) (by omega) _ (by rw [hf]; omega) W) w t0 t1 h19 (fun W g hb => uscale_at (25 * z * 256) 11805916207174113035 14019525496019259228 (z * 256 * 16) (z * 256 * 19) (25 * z * 256 * 14019525496019259228 / 18446744073709551616) (25 * z * 256 * 14019525496019259228 % 18446744073709551616) (z * 16) (by omega) (by omega) (by omega) (by omega) (by omega) (by omega) (by omega) (by omega) (by omega) (by omega) (by omega) (by omega) W g hb)
  exact bits_or_nil _ (by omega)

set_option maxRecDepth 100000 in
theorem big_56_2t (neg : Bool) (a D : Nat) (ha2 : a < 562949953421312) (hD : 2 * D = 25 * a) (h0 : 36028797018963968 ≤ D) (h1 : D < 72057594037927936) (hc : 36028797018963966 ≤ a / 2 * 16) (w : World)
    (t0 : w.cell? ⟨19, ((-2 + 348 : Int).toNat) * 2, none⟩ = some (.int .u64 (11805916207174113035 : Nat))) (t1 : w.cell? ⟨19, ((-2 + 348 : Int).toNat) * 2 + 1, none⟩ = some (.int .u64 (14019525496019259228 : Nat))) (h19 : 19 < w.heap.size) :
    Calls Tryz.prog 98 #[.int .u64 D, .int .i64 (-2), .int .u64 ((if neg then 9223372036854775808 else 0 : Nat) : Int)] w fun e' w' => e' = .returned (.tuple #[.float .f64 (fbits neg a), .nilIface]) ∧ Below w.heap.size w w' := by
  obtain ⟨z, rfl⟩ : ∃ z, a = 2 * z := ⟨a / 2, by omega⟩
  obtain rfl : D = 25 * z := by omega
  have hc' : 36028797018963966 ≤ z * 16 := by omega
  have hbl : Lib.bitLen (25 * z) = 56 := by
    rw [Lib.bitLen_shift 55 (25 * z) (by omega) (by omega), show 25 * z / 2 ^ 55 = 1 by omega]
    rfl
  have hlog : (2 * z).log2 = 52 := (Nat.log2_eq_iff (by omega)).2 ⟨by omega, by omega⟩
  have hS : (if neg then 9223372036854775808 else 0 : Nat) = 0 ∨ (if neg then 9223372036854775808 else 0 : Nat) = 9223372036854775808 := by cases neg <;> simp
  have hf : fbits neg (2 * z) = (if neg then 9223372036854775808 else 0 : Nat) + (1071 * 4503599627370496 + z * 2) := by
    unfold fbits
    rw [hlog]
    try omega
  generalize (if neg then 9223372036854775808 else 0 : Nat) = S at *
  refine parse_56_2t (25 * z) S (z * 16) (z * 8) (z * 2) (fbits neg (2 * z)) hbl h1 11805916207174113035 14019525496019259228 (by simp; omega) (and_even _ (by omega) (by omega)) ?_ (round_at _ _ (by omega) (by omega)) (or_sign S _ hS (by omega)) (fun W => pack_any S (z * 2) hS (by omega) (by omega) _ (by omega) (by omega) _ (by rw [hf]; omega) W) w t0 t1 h19 (fun W g hb => uscale_at (25 * z * 256) 11805916207174113035 14019525496019259228 (z * 256 * 16) (z * 256 * 19) (25 * z * 256 * 14019525496019259228 / 18446744073709551616) (25 * z * 256 * 14019525496019259228 % 18446744073709551616) (z * 16) (by omega) (by omega) (by omega) (by omega) (by omega) (by omega) (by omega) (by omega) (by omega) (by omega) (by omega) (by omega) W g hb)
  rw [show (((z * 16 : Nat) : Int) / 2) = ((z * 8 : Nat) : Int) by omega]; exact bits_or_nil _ (by omega)

set_option maxRecDepth 100000 in
theorem big_56_3f (neg : Bool) (a D : Nat) (ha2 : a < 562949953421312) (hD : D = 125 * a) (h0 : 36028797018963968 ≤ D) (h1 : D < 72057594037927936) (hc : a * 64 < 36028797018963966) (w : World)
    (t0 : w.cell? ⟨19, ((-3 + 348 : Int).toNat) * 2, none⟩ = some (.int .u64 (9444732965739290428 : Nat))) (t1 : w.cell? ⟨19, ((-3 + 348 : Int).toNat) * 2 + 1, none⟩ = some (.int .u64 (11215620396815407382 : Nat))) (h19 : 19 < w.heap.size) :
    Calls Tryz.prog 98 #[.int .u64 D, .int .i64 (-3), .int .u64 ((if neg then 9223372036854775808 else 0 : Nat) : Int)] w fun e' w' => e' = .returned (.tuple #[.float .f64 (fbits neg a), .nilIface]) ∧ Below w.heap.size w w' := by
  obtain rfl : D = 125 * a := hD
  have hc' : a * 64 < 36028797018963966 := by omega
  have hbl : Lib.bitLen (125 * a) = 56 := by
    rw [Lib.bitLen_shift 55 (125 * a) (by omega) (by omega), show 125 * a / 2 ^ 55 = 1 by omega]
    rfl
  have hlog : (a).log2 = 48 := (Nat.log2_eq_iff (by omega)).2 ⟨by omega, by omega⟩
  have hS : (if neg then 9223372036854775808 else 0 : Nat) = 0 ∨ (if neg then 9223372036854775808 else 0 : Nat) = 9223372036854775808 := by cases neg <;> simp
  have hf : fbits neg (a) = (if neg then 9223372036854775808 else 0 : Nat) + (1067 * 4503599627370496 + a * 16) := by
    unfold fbits
    rw [hlog]
    try omega
  generalize (if neg then 9223372036854775808 else 0 : Nat) = S at *
  refine parse_56_3f (125 * a) S (a * 64) (a * 64) (a * 16) (fbits neg (a)) hbl h1 9444732965739290428 11215620396815407382 (by simp; omega) (and_even _ (by omega) (by omega)) ?_ (round_at _ _ (by omega) (by omega)) (or_sign S _ hS (by omega)) (fun W => pack_any S (a * 16) hS (by omega) (by omega) _ (by omega) (by omega) _ (by rw [hf]; omega) W) w t0 t1 h19 (fun W g hb => uscale_at (125 * a * 256) 9444732965739290428 11215620396815407382 (a * 256 * 64) (a * 256 * 76) (125 * a * 256 * 11215620396815407382 / 18446744073709551616) (125 * a * 256 * 11215620396815407382 % 18446744073709551616) (a * 64) (by omega) (by omega) (by omega) (by omega) (by omega) (by omega) (by omega) (by omega) (by omega) (by omega) (by omega) (by omega) W g hb)
  exact bits_or_nil _ (by omega)

set_option maxRecDepth 100000 in
theorem big_56_3t (neg : Bool) (a D : Nat) (ha2 : a < 562949953421312) (hD : D = 125 * a) (h0 : 36028797018963968 ≤ D) (h1 : D < 72057594037927936) (hc : 36028797018963966 ≤ a * 64) (w : World)
    (t0 : w.cell? ⟨19, ((-3 + 348 : Int).toNat) * 2, none⟩ = some (.int .u64 (9444732965739290428 : Nat))) (t1 : w.cell? ⟨19, ((-3 + 348 : Int).toNat) * 2 + 1, none⟩ = some (.int .u64 (11215620396815407382 : Nat))) (h19 : 19 < w.heap.size) :
    Calls Tryz.prog 98 #[.int .u64 D, .int .i64 (-3), .int .u64 ((if neg then 9223372036854775808 else 0 : Nat) : Int)] w fun e' w' => e' = .returned (.tuple #[.float .f64 (fbits neg a), .nilIface]) ∧ Below w.heap.size w w' := by
  obtain rfl : D = 125 * a := hD
  have hc' : 36028797018963966 ≤ a * 64 := by omega
  have hbl : Lib.bitLen (125 * a) = 56 := by
    rw [Lib.bitLen_shift 55 (125 * a) (by omega) (by omega), show 125 * a / 2 ^ 55 = 1 by omega]
    rfl
  have hlog : (a).log2 = 49 := (Nat.log2_eq_iff (by omega)).2 ⟨by omega, by omega⟩
  have hS : (if neg then 9223372036854775808 else 0 : Nat) = 0 ∨ (if neg then 9223372036854775808 else 0 : Nat) = 9223372036854775808 := by cases neg <;> simp
  have hf : fbits neg (a) = (if neg then 9223372036854775808 else 0 : Nat) + (1068 * 4503599627370496 + a * 8) := by
    unfold fbits
    rw [hlog]
    try omega
  generalize (if neg then 9223372036854775808 else 0 : Nat) = S at *
  refine parse_56_3t (125 * a) S (a * 64) (a * 32) (a * 8) (fbits neg (a)) hbl h1 9444732965739290428 11215620396815407382 (by simp; omega) (and_even _ (by omega) (by omega)) ?_ (round_at _ _ (by omega) (by omega)) (or_sign S _ hS (by omega)) (fun W => pack_any S (a * 8) hS (by omega) (by omega) _ (by omega) (by omega) _ (by rw [hf]; omega) W) w t0 t1 h19 (fun W g hb => uscale_at (125 * a * 256) 9444732965739290428 11215620396815407382 (a * 256 * 64) (a * 256 * 76) (125 * a * 256 * 11215620396815407382 / 18446744073709551616) (125 * a * 256 * 11215620396815407382 % 18446744073709551616) (a * 64) (by omega) (by omega) (by omega) (by omega) (by omega) (by omega) (by omega) (by omega) (by omega) (by omega) (by omega) (by omega) W g hb)
  rw [show (((a * 64 : Nat) : Int) / 2) = ((a * 32 : Nat) : Int) by omega]; exact bits_or_nil _ (by omega)

end Go.Proofs.YtlnkieokhefkfaaGreatDoor
