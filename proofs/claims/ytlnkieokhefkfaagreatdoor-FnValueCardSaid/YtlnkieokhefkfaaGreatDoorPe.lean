/-
  internal/strconv.pack64, parseFloat64 at an exact number, walked.
-/
import Derived.Test.YtlnkieokhefkfaaGreatDoorPd
namespace Go.Proofs.YtlnkieokhefkfaaGreatDoor
open Go.RowKit Go.Lib

theorem and_low (t mask : Nat) (ht : t < 4503599627370496) (hm : mask % 4503599627370496 = 4503599627370495) : t &&& mask = t := by
  have h := Nat.and_mod_two_pow (a := t) (b := mask) (n := 52)
  rw [show (2 : Nat) ^ 52 = 4503599627370496 by decide, hm, Nat.mod_eq_of_lt ht, Nat.mod_eq_of_lt (Nat.lt_of_le_of_lt Nat.and_le_left ht)] at h
  rw [h, show (4503599627370495 : Nat) = 2 ^ 52 - 1 by decide, Nat.and_two_pow_sub_one_eq_mod]
  exact Nat.mod_eq_of_lt ht
theorem and_not52 (S t : Nat) (hS : S = 0 ∨ S = 9223372036854775808) (ht : t < 4503599627370496) : (S + (4503599627370496 + t)) &&& (18446744073709551615 - 4503599627370496) = S + t := by
  rw [← nat_join 63 S (4503599627370496 + t) (by rcases hS with rfl | rfl <;> decide) (by omega), ← nat_join 52 4503599627370496 t (by decide) ht, Nat.and_or_distrib_right, Nat.and_or_distrib_right, and_low t _ ht (by decide), show 4503599627370496 &&& (18446744073709551615 - 4503599627370496) = 0 by decide, Nat.zero_or]
  rw [← nat_join 63 S t (by rcases hS with rfl | rfl <;> decide) (by omega)]
  rcases hS with rfl | rfl
  · rw [Nat.zero_and]
  · rw [show 9223372036854775808 &&& (18446744073709551615 - 4503599627370496) = 9223372036854775808 by decide]
theorem bit52_on (S m : Nat) (hS : S = 0 ∨ S = 9223372036854775808) (h0 : 4503599627370496 ≤ m) (h1 : m < 9007199254740992) : bits .and .u64 ((S + m : Nat) : Int) 4503599627370496 = 4503599627370496 ∧ bits .andNot .u64 ((S + m : Nat) : Int) 4503599627370496 = ((S + (m - 4503599627370496) : Nat) : Int) := by
  have e1 := u64_and_nat (S + m) 4503599627370496 (by omega) (by decide)
  have e2 := nat_bit 52 (S + m)
  rw [show (2 : Nat) ^ 52 = 4503599627370496 by decide] at e2
  have e3 := u64_andNot_nat (S + m) 4503599627370496 (by omega) (by decide)
  have e4 := and_not52 S (m - 4503599627370496) hS (by omega)
  rw [show 4503599627370496 + (m - 4503599627370496) = m by omega] at e4
  refine ⟨?_, ?_⟩
  · rw [show (4503599627370496 : Int) = ((4503599627370496 : Nat) : Int) by rfl, e1, e2]
    exact Int.ofNat_inj.mpr (by omega)
  · rw [show (4503599627370496 : Int) = ((4503599627370496 : Nat) : Int) by rfl, e3, e4]
theorem or_exp (S t E : Nat) (hS : S = 0 ∨ S = 9223372036854775808) (ht : t < 4503599627370496) (hE : E < 2048) : bits .or .u64 ((S + t : Nat) : Int) ((E * 4503599627370496 : Nat) : Int) = ((S + t + E * 4503599627370496 : Nat) : Int) := by
  rw [u64_or_nat _ _ (by omega) (by omega)]
  refine Int.ofNat_inj.mpr ?_
  rcases hS with rfl | rfl
  · rw [Nat.zero_add, Nat.or_comm, nat_join 52 (E * 4503599627370496) t (by omega) ht, Nat.add_comm]
  · rw [← nat_join 63 9223372036854775808 t (by decide) (by omega), Nat.or_assoc, Nat.or_comm t, nat_join 52 (E * 4503599627370496) t (by omega) ht, nat_join 63 9223372036854775808 _ (by decide) (by omega), nat_join 63 9223372036854775808 t (by decide) (by omega)]
    omega

set_option maxRecDepth 100000 in
theorem pack_any (S m : Nat) (hS : S = 0 ∨ S = 9223372036854775808) (h0 : 4503599627370496 ≤ m) (h1 : m < 9007199254740992) (e : Int) (he0 : -1000 ≤ e) (he1 : e ≤ 900) (res : Nat) (hres : (res : Int) = S + (m - 4503599627370496) + (1075 + e) * 4503599627370496) (w : World) :
    Calls Tryz.prog 126 #[.int .u64 ((S + m : Nat) : Int), .int .i64 e] w fun e' w' => e' = .returned (.tuple #[.float .f64 res, .nilIface]) ∧ w = w' := by
  obtain ⟨b1, b2⟩ := bit52_on S m hS h0 h1
  have hb := float64frombits_run res
  have hx : bits .or .u64 ((S + (m - 4503599627370496) : Nat) : Int) ((1075 + e) * 4503599627370496) = (res : Int) := by
    obtain ⟨E, hE⟩ : ∃ E : Nat, 1075 + e = (E : Int) := ⟨(1075 + e).toNat, by omega⟩
    have h := or_exp S (m - 4503599627370496) E hS (by omega) (by omega)
    rw [hE, show ((E : Int) * 4503599627370496) = ((E * 4503599627370496 : Nat) : Int) by omega, h]
    rw [hE] at hres
    omega
  clear hres
  generalize ((S + (m - 4503599627370496) : Nat) : Int) = A at *
  generalize hSM : ((S + m : Nat) : Int) = SM at *
  clear hSM
  go_enter Tryz.func126, Tryz.ntmps126
  go_wp2_with fail
  go_ret2
  exact ⟨rfl, rfl⟩

theorem len_at (x b : Nat) (hx : x < 18446744073709551616) (hb : Lib.bitLen x = b) (w : World) : Calls Tryz.prog 47 #[.int .u64 (x : Int)] w fun e w' => e = .returned (.int .i64 b) ∧ w = w' := by
  refine (Tryz.bits_Len64 x w (by omega) (by omega)).mono ?_
  rintro e w' ⟨h1, h2⟩
  rw [show ((x : Nat) : Int).toNat = x by omega, hb] at h1
  exact ⟨h1, h2.symm⟩

theorem unmin_at (w : World) : Calls Tryz.prog 110 #[.int .u64 9007199254740992] w fun e w' => e = .returned (.int .u64 36028797018963966) ∧ w = w' := by
  go_enter Tryz.func110, Tryz.ntmps110
  go_wp2
  go_ret
  exact ⟨rfl, rfl⟩

theorem boolI_at (b : Bool) (w : World) : Calls Tryz.prog 48 #[.bool b] w fun e w' => e = .returned (.int .i64 (if b then 1 else 0)) ∧ w = w' := by
  cases b <;> (
    go_enter Tryz.func48, Tryz.ntmps48
    go_wp2
    go_ret
    exact ⟨rfl, rfl⟩)

set_option maxRecDepth 100000 in
set_option maxHeartbeats 2000000 in
theorem parse_53_2f (D S U X m res : Nat) (hb : Lib.bitLen D = 53) (hD : D < 9007199254740992) (hi lo : Nat) (hc : decide (36028797018963966 ≤ (U : Int)) = false) (hand : bits .and .u64 (U : Int) 1 = 0) (hX : bits .or .u64 ((U : Int)) 0 = (X : Int))
    (h109 : ∀ W, Calls Tryz.prog 109 #[.int .u64 (X : Int)] W fun e w' => e = .returned (.int .u64 (m : Int)) ∧ W = w') (hor : bits .or .u64 (S : Int) (m : Int) = ((S + m : Nat) : Int))
    (h126 : ∀ W, Calls Tryz.prog 126 #[.int .u64 ((S + m : Nat) : Int), .int .i64 (-7)] W fun e w' => e = .returned (.tuple #[.float .f64 res, .nilIface]) ∧ W = w')
    (w : World) (t0 : w.cell? ⟨19, ((-2 + 348 : Int).toNat) * 2, none⟩ = some (.int .u64 hi)) (t1 : w.cell? ⟨19, ((-2 + 348 : Int).toNat) * 2 + 1, none⟩ = some (.int .u64 lo)) (h19 : 19 < w.heap.size)
    (hU : ∀ (W : World) (g : Nat), Blk W g 151 #[.int .u64 hi, .int .u64 lo, .int .i64 8] → Calls Tryz.prog 105 #[.int .u64 ((D * 2048 : Nat) : Int), .pointer (some ⟨g, 0, none⟩)] W fun e w' => e = .returned (.int .u64 (U : Nat)) ∧ ∃ n, w' = W.drewN n) :
    Calls Tryz.prog 98 #[.int .u64 D, .int .i64 (-2), .int .u64 S] w fun e' w' => e' = .returned (.tuple #[.float .f64 res, .nilIface]) ∧ Below w.heap.size w w' := by
  have K47 := Lib.hid (len_at D 53 (by omega) hb w)
  have HT0 := Lib.hid t0
  have HT1 := Lib.hid t1
  have KU := Lib.hid hU
  have K109 := Lib.hid h109
  have K126 := Lib.hid h126
  have K104 := Lib.hid (log2Pow10_any (-2) (by omega) (by omega) w)
  clear hb t0 t1 hU h109 h126
  have hmin : (min 1074 7 : Int) = 7 := by decide
  generalize hSM : ((S + m : Nat) : Int) = SM at *
  go_enter Tryz.func98, Tryz.ntmps98
  go_wp2_with (first | (go_at_call 47; refine K47.out.mono ?_; rintro e w' ⟨rfl, rfl⟩) | (go_at_call 104; refine K104.out.mono ?_; rintro e w' ⟨rfl, rfl⟩))
  generalize hW1 : World.alloc w _ = W1
  have hbk : Blk W1 w.heap.size 151 #[.int .u64 0, .int .u64 0, .int .i64 0] := by
    rw [← hW1]
    exact Blk.new w _ _
  have hlow : Below w.heap.size w W1 := by
    rw [← hW1]
    exact below_alloc (Below.refl _ _) (Nat.le_refl _) _
  have HL := Lib.hid hlow
  have hx := prescale_any w.heap.size (-4) (-2) (-7) hi lo _ _ _ W1 (by omega) (by omega) (by omega) (by omega) (by omega) (by omega) ((hlow.cell (p := ⟨19, ((-2 + 348 : Int).toNat) * 2, none⟩) h19).trans HT0.out) ((hlow.cell (p := ⟨19, ((-2 + 348 : Int).toNat) * 2 + 1, none⟩) h19).trans HT1.out) hbk (by omega)
  have hlt := hbk.lt
  clear hW1 hbk hlow
  go_at_call 103
  refine hx.mono ?_
  rintro e w2 ⟨rfl, hb2, hg2⟩
  have hc2 : w2.cell? ⟨w.heap.size, 2, none⟩ = some (.int .i64 8) := by rw [hb2.cell]; rfl
  have HB2 := Lib.hid hb2
  have HG2 := Lib.hid hg2
  clear hb2 hg2 hx
  go_wp2_with (first | (go_at_call 105; refine (KU.out _ _ HB2.out).mono ?_; rintro e w3 ⟨rfl, n, rfl⟩) | (go_at_call 110; refine (unmin_at _).mono ?_; rintro e w4 ⟨rfl, rfl⟩) | (go_at_call 48; refine (boolI_at _ _).mono ?_; rintro e w4 ⟨rfl, rfl⟩) | (go_at_call 109; refine (K109.out _).mono ?_; rintro e w5 ⟨rfl, rfl⟩) | (go_at_call 126; refine (K126.out _).mono ?_; rintro e w5 ⟨rfl, rfl⟩))
  go_ret2
  exact ⟨rfl, HL.out.trans ⟨HG2.out.os, HG2.out.tape, HG2.out.output, HG2.out.size, fun i hi => HG2.out.block i (by omega) (fun e => by injection e; omega)⟩⟩

set_option maxRecDepth 100000 in
set_option maxHeartbeats 2000000 in
theorem parse_53_2t (D S U X m res : Nat) (hb : Lib.bitLen D = 53) (hD : D < 9007199254740992) (hi lo : Nat) (hc : decide (36028797018963966 ≤ (U : Int)) = true) (hand : bits .and .u64 (U : Int) 1 = 0) (hX : bits .or .u64 ((U : Int) / 2) 0 = (X : Int))
    (h109 : ∀ W, Calls Tryz.prog 109 #[.int .u64 (X : Int)] W fun e w' => e = .returned (.int .u64 (m : Int)) ∧ W = w') (hor : bits .or .u64 (S : Int) (m : Int) = ((S + m : Nat) : Int))
    (h126 : ∀ W, Calls Tryz.prog 126 #[.int .u64 ((S + m : Nat) : Int), .int .i64 (-6)] W fun e w' => e = .returned (.tuple #[.float .f64 res, .nilIface]) ∧ W = w')
    (w : World) (t0 : w.cell? ⟨19, ((-2 + 348 : Int).toNat) * 2, none⟩ = some (.int .u64 hi)) (t1 : w.cell? ⟨19, ((-2 + 348 : Int).toNat) * 2 + 1, none⟩ = some (.int .u64 lo)) (h19 : 19 < w.heap.size)
    (hU : ∀ (W : World) (g : Nat), Blk W g 151 #[.int .u64 hi, .int .u64 lo, .int .i64 8] → Calls Tryz.prog 105 #[.int .u64 ((D * 2048 : Nat) : Int), .pointer (some ⟨g, 0, none⟩)] W fun e w' => e = .returned (.int .u64 (U : Nat)) ∧ ∃ n, w' = W.drewN n) :
    Calls Tryz.prog 98 #[.int .u64 D, .int .i64 (-2), .int .u64 S] w fun e' w' => e' = .returned (.tuple #[.float .f64 res, .nilIface]) ∧ Below w.heap.size w w' := by
  have K47 := Lib.hid (len_at D 53 (by omega) hb w)
  have HT0 := Lib.hid t0
  have HT1 := Lib.hid t1
  have KU := Lib.hid hU
  have K109 := Lib.hid h109
  have K126 := Lib.hid h126
  have K104 := Lib.hid (log2Pow10_any (-2) (by omega) (by omega) w)
  clear hb t0 t1 hU h109 h126
  have hmin : (min 1074 7 : Int) = 7 := by decide
  generalize hSM : ((S + m : Nat) : Int) = SM at *
  go_enter Tryz.func98, Tryz.ntmps98
  go_wp2_with (first | (go_at_call 47; refine K47.out.mono ?_; rintro e w' ⟨rfl, rfl⟩) | (go_at_call 104; refine K104.out.mono ?_; rintro e w' ⟨rfl, rfl⟩))
  generalize hW1 : World.alloc w _ = W1
  have hbk : Blk W1 w.heap.size 151 #[.int .u64 0, .int .u64 0, .int .i64 0] := by
    rw [← hW1]
    exact Blk.new w _ _
  have hlow : Below w.heap.size w W1 := by
    rw [← hW1]
    exact below_alloc (Below.refl _ _) (Nat.le_refl _) _
  have HL := Lib.hid hlow
  have hx := prescale_any w.heap.size (-4) (-2) (-7) hi lo _ _ _ W1 (by omega) (by omega) (by omega) (by omega) (by omega) (by omega) ((hlow.cell (p := ⟨19, ((-2 + 348 : Int).toNat) * 2, none⟩) h19).trans HT0.out) ((hlow.cell (p := ⟨19, ((-2 + 348 : Int).toNat) * 2 + 1, none⟩) h19).trans HT1.out) hbk (by omega)
  have hlt := hbk.lt
  clear hW1 hbk hlow
  go_at_call 103
  refine hx.mono ?_
  rintro e w2 ⟨rfl, hb2, hg2⟩
  have hc2 : w2.cell? ⟨w.heap.size, 2, none⟩ = some (.int .i64 8) := by rw [hb2.cell]; rfl
  have HB2 := Lib.hid hb2
  have HG2 := Lib.hid hg2
  clear hb2 hg2 hx
  go_wp2_with (first | (go_at_call 105; refine (KU.out _ _ HB2.out).mono ?_; rintro e w3 ⟨rfl, n, rfl⟩) | (go_at_call 110; refine (unmin_at _).mono ?_; rintro e w4 ⟨rfl, rfl⟩) | (go_at_call 48; refine (boolI_at _ _).mono ?_; rintro e w4 ⟨rfl, rfl⟩) | (go_at_call 109; refine (K109.out _).mono ?_; rintro e w5 ⟨rfl, rfl⟩) | (go_at_call 126; refine (K126.out _).mono ?_; rintro e w5 ⟨rfl, rfl⟩))
  go_ret2
  exact ⟨rfl, HL.out.trans ⟨HG2.out.os, HG2.out.tape, HG2.out.output, HG2.out.size, fun i hi => HG2.out.block i (by omega) (fun e => by injection e; omega)⟩⟩

set_option maxRecDepth 100000 in
set_option maxHeartbeats 2000000 in
theorem parse_53_3f (D S U X m res : Nat) (hb : Lib.bitLen D = 53) (hD : D < 9007199254740992) (hi lo : Nat) (hc : decide (36028797018963966 ≤ (U : Int)) = false) (hand : bits .and .u64 (U : Int) 1 = 0) (hX : bits .or .u64 ((U : Int)) 0 = (X : Int))
    (h109 : ∀ W, Calls Tryz.prog 109 #[.int .u64 (X : Int)] W fun e w' => e = .returned (.int .u64 (m : Int)) ∧ W = w') (hor : bits .or .u64 (S : Int) (m : Int) = ((S + m : Nat) : Int))
    (h126 : ∀ W, Calls Tryz.prog 126 #[.int .u64 ((S + m : Nat) : Int), .int .i64 (-10)] W fun e w' => e = .returned (.tuple #[.float .f64 res, .nilIface]) ∧ W = w')
    (w : World) (t0 : w.cell? ⟨19, ((-3 + 348 : Int).toNat) * 2, none⟩ = some (.int .u64 hi)) (t1 : w.cell? ⟨19, ((-3 + 348 : Int).toNat) * 2 + 1, none⟩ = some (.int .u64 lo)) (h19 : 19 < w.heap.size)
    (hU : ∀ (W : World) (g : Nat), Blk W g 151 #[.int .u64 hi, .int .u64 lo, .int .i64 8] → Calls Tryz.prog 105 #[.int .u64 ((D * 2048 : Nat) : Int), .pointer (some ⟨g, 0, none⟩)] W fun e w' => e = .returned (.int .u64 (U : Nat)) ∧ ∃ n, w' = W.drewN n) :
    Calls Tryz.prog 98 #[.int .u64 D, .int .i64 (-3), .int .u64 S] w fun e' w' => e' = .returned (.tuple #[.float .f64 res, .nilIface]) ∧ Below w.heap.size w w' := by
  have K47 := Lib.hid (len_at D 53 (by omega) hb w)
  have HT0 := Lib.hid t0
  have HT1 := Lib.hid t1
  have KU := Lib.hid hU
  have K109 := Lib.hid h109
  have K126 := Lib.hid h126
  have K104 := Lib.hid (log2Pow10_any (-3) (by omega) (by omega) w)
  clear hb t0 t1 hU h109 h126
  have hmin : (min 1074 10 : Int) = 10 := by decide
  generalize hSM : ((S + m : Nat) : Int) = SM at *
  go_enter Tryz.func98, Tryz.ntmps98
  go_wp2_with (first | (go_at_call 47; refine K47.out.mono ?_; rintro e w' ⟨rfl, rfl⟩) | (go_at_call 104; refine K104.out.mono ?_; rintro e w' ⟨rfl, rfl⟩))
  generalize hW1 : World.alloc w _ = W1
  have hbk : Blk W1 w.heap.size 151 #[.int .u64 0, .int .u64 0, .int .i64 0] := by
    rw [← hW1]
    exact Blk.new w _ _
  have hlow : Below w.heap.size w W1 := by
    rw [← hW1]
    exact below_alloc (Below.refl _ _) (Nat.le_refl _) _
  have HL := Lib.hid hlow
  have hx := prescale_any w.heap.size (-1) (-3) (-10) hi lo _ _ _ W1 (by omega) (by omega) (by omega) (by omega) (by omega) (by omega) ((hlow.cell (p := ⟨19, ((-3 + 348 : Int).toNat) * 2, none⟩) h19).trans HT0.out) ((hlow.cell (p := ⟨19, ((-3 + 348 : Int).toNat) * 2 + 1, none⟩) h19).trans HT1.out) hbk (by omega)
  have hlt := hbk.lt
  clear hW1 hbk hlow
  go_at_call 103
  refine hx.mono ?_
  rintro e w2 ⟨rfl, hb2, hg2⟩
  have hc2 : w2.cell? ⟨w.heap.size, 2, none⟩ = some (.int .i64 8) := by rw [hb2.cell]; rfl
  have HB2 := Lib.hid hb2
  have HG2 := Lib.hid hg2
  clear hb2 hg2 hx
  go_wp2_with (first | (go_at_call 105; refine (KU.out _ _ HB2.out).mono ?_; rintro e w3 ⟨rfl, n, rfl⟩) | (go_at_call 110; refine (unmin_at _).mono ?_; rintro e w4 ⟨rfl, rfl⟩) | (go_at_call 48; refine (boolI_at _ _).mono ?_; rintro e w4 ⟨rfl, rfl⟩) | (go_at_call 109; refine (K109.out _).mono ?_; rintro e w5 ⟨rfl, rfl⟩) | (go_at_call 126; refine (K126.out _).mono ?_; rintro e w5 ⟨rfl, rfl⟩))
  go_ret2
  exact ⟨rfl, HL.out.trans ⟨HG2.out.os, HG2.out.tape, HG2.out.output, HG2.out.size, fun i hi => HG2.out.block i (by omega) (fun e => by injection e; omega)⟩⟩

set_option maxRecDepth 100000 in
set_option maxHeartbeats 2000000 in
theorem parse_53_3t (D S U X m res : Nat) (hb : Lib.bitLen D = 53) (hD : D < 9007199254740992) (hi lo : Nat) (hc : decide (36028797018963966 ≤ (U : Int)) = true) (hand : bits .and .u64 (U : Int) 1 = 0) (hX : bits .or .u64 ((U : Int) / 2) 0 = (X : Int))
    (h109 : ∀ W, Calls Tryz.prog 109 #[.int .u64 (X : Int)] W fun e w' => e = .returned (.int .u64 (m : Int)) ∧ W = w') (hor : bits .or .u64 (S : Int) (m : Int) = ((S + m : Nat) : Int))
    (h126 : ∀ W, Calls Tryz.prog 126 #[.int .u64 ((S + m : Nat) : Int), .int .i64 (-9)] W fun e w' => e = .returned (.tuple #[.float .f64 res, .nilIface]) ∧ W = w')
    (w : World) (t0 : w.cell? ⟨19, ((-3 + 348 : Int).toNat) * 2, none⟩ = some (.int .u64 hi)) (t1 : w.cell? ⟨19, ((-3 + 348 : Int).toNat) * 2 + 1, none⟩ = some (.int .u64 lo)) (h19 : 19 < w.heap.size)
    (hU : ∀ (W : World) (g : Nat), Blk W g 151 #[.int .u64 hi, .int .u64 lo, .int .i64 8] → Calls Tryz.prog 105 #[.int .u64 ((D * 2048 : Nat) : Int), .pointer (some ⟨g, 0, none⟩)] W fun e w' => e = .returned (.int .u64 (U : Nat)) ∧ ∃ n, w' = W.drewN n) :
    Calls Tryz.prog 98 #[.int .u64 D, .int .i64 (-3), .int .u64 S] w fun e' w' => e' = .returned (.tuple #[.float .f64 res, .nilIface]) ∧ Below w.heap.size w w' := by
  have K47 := Lib.hid (len_at D 53 (by omega) hb w)
  have HT0 := Lib.hid t0
  have HT1 := Lib.hid t1
  have KU := Lib.hid hU
  have K109 := Lib.hid h109
  have K126 := Lib.hid h126
  have K104 := Lib.hid (log2Pow10_any (-3) (by omega) (by omega) w)
  clear hb t0 t1 hU h109 h126
  have hmin : (min 1074 10 : Int) = 10 := by decide
  generalize hSM : ((S + m : Nat) : Int) = SM at *
  go_enter Tryz.func98, Tryz.ntmps98
  go_wp2_with (first | (go_at_call 47; refine K47.out.mono ?_; rintro e w' ⟨rfl, rfl⟩) | (go_at_call 104; refine K104.out.mono ?_; rintro e w' ⟨rfl, rfl⟩))
  generalize hW1 : World.alloc w _ = W1
  have hbk : Blk W1 w.heap.size 151 #[.int .u64 0, .int .u64 0, .int .i64 0] := by
    rw [← hW1]
    exact Blk.new w _ _
  have hlow : Below w.heap.size w W1 := by
    rw [← hW1]
    exact below_alloc (Below.refl _ _) (Nat.le_refl _) _
  have HL := Lib.hid hlow
  have hx := prescale_any w.heap.size (-1) (-3) (-10) hi lo _ _ _ W1 (by omega) (by omega) (by omega) (by omega) (by omega) (by omega) ((hlow.cell (p := ⟨19, ((-3 + 348 : Int).toNat) * 2, none⟩) h19).trans HT0.out) ((hlow.cell (p := ⟨19, ((-3 + 348 : Int).toNat) * 2 + 1, none⟩) h19).trans HT1.out) hbk (by omega)
  have hlt := hbk.lt
  clear hW1 hbk hlow
  go_at_call 103
  refine hx.mono ?_
  rintro e w2 ⟨rfl, hb2, hg2⟩
  have hc2 : w2.cell? ⟨w.heap.size, 2, none⟩ = some (.int .i64 8) := by rw [hb2.cell]; rfl
  have HB2 := Lib.hid hb2
  have HG2 := Lib.hid hg2
  clear hb2 hg2 hx
  go_wp2_with (first | (go_at_call 105; refine (KU.out _ _ HB2.out).mono ?_; rintro e w3 ⟨rfl, n, rfl⟩) | (go_at_call 110; refine (unmin_at _).mono ?_; rintro e w4 ⟨rfl, rfl⟩) | (go_at_call 48; refine (boolI_at _ _).mono ?_; rintro e w4 ⟨rfl, rfl⟩) | (go_at_call 109; refine (K109.out _).mono ?_; rintro e w5 ⟨rfl, rfl⟩) | (go_at_call 126; refine (K126.out _).mono ?_; rintro e w5 ⟨rfl, rfl⟩))
  go_ret2
  exact ⟨rfl, HL.out.trans ⟨HG2.out.os, HG2.out.tape, HG2.out.output, HG2.out.size, fun i hi => HG2.out.block i (by omega) (fun e => by injection e; omega)⟩⟩

set_option maxRecDepth 100000 in
set_option maxHeartbeats 2000000 in
theorem parse_54_2f (D S U X m res : Nat) (hb : Lib.bitLen D = 54) (hD : D < 18014398509481984) (hi lo : Nat) (hc : decide (36028797018963966 ≤ (U : Int)) = false) (hand : bits .and .u64 (U : Int) 1 = 0) (hX : bits .or .u64 ((U : Int)) 0 = (X : Int))
    (h109 : ∀ W, Calls Tryz.prog 109 #[.int .u64 (X : Int)] W fun e w' => e = .returned (.int .u64 (m : Int)) ∧ W = w') (hor : bits .or .u64 (S : Int) (m : Int) = ((S + m : Nat) : Int))
    (h126 : ∀ W, Calls Tryz.prog 126 #[.int .u64 ((S + m : Nat) : Int), .int .i64 (-6)] W fun e w' => e = .returned (.tuple #[.float .f64 res, .nilIface]) ∧ W = w')
    (w : World) (t0 : w.cell? ⟨19, ((-2 + 348 : Int).toNat) * 2, none⟩ = some (.int .u64 hi)) (t1 : w.cell? ⟨19, ((-2 + 348 : Int).toNat) * 2 + 1, none⟩ = some (.int .u64 lo)) (h19 : 19 < w.heap.size)
    (hU : ∀ (W : World) (g : Nat), Blk W g 151 #[.int .u64 hi, .int .u64 lo, .int .i64 8] → Calls Tryz.prog 105 #[.int .u64 ((D * 1024 : Nat) : Int), .pointer (some ⟨g, 0, none⟩)] W fun e w' => e = .returned (.int .u64 (U : Nat)) ∧ ∃ n, w' = W.drewN n) :
    Calls Tryz.prog 98 #[.int .u64 D, .int .i64 (-2), .int .u64 S] w fun e' w' => e' = .returned (.tuple #[.float .f64 res, .nilIface]) ∧ Below w.heap.size w w' := by
  have K47 := Lib.hid (len_at D 54 (by omega) hb w)
  have HT0 := Lib.hid t0
  have HT1 := Lib.hid t1
  have KU := Lib.hid hU
  have K109 := Lib.hid h109
  have K126 := Lib.hid h126
  have K104 := Lib.hid (log2Pow10_any (-2) (by omega) (by omega) w)
  clear hb t0 t1 hU h109 h126
  have hmin : (min 1074 6 : Int) = 6 := by decide
  generalize hSM : ((S + m : Nat) : Int) = SM at *
  go_enter Tryz.func98, Tryz.ntmps98
  go_wp2_with (first | (go_at_call 47; refine K47.out.mono ?_; rintro e w' ⟨rfl, rfl⟩) | (go_at_call 104; refine K104.out.mono ?_; rintro e w' ⟨rfl, rfl⟩))
  generalize hW1 : World.alloc w _ = W1
  have hbk : Blk W1 w.heap.size 151 #[.int .u64 0, .int .u64 0, .int .i64 0] := by
    rw [← hW1]
    exact Blk.new w _ _
  have hlow : Below w.heap.size w W1 := by
    rw [← hW1]
    exact below_alloc (Below.refl _ _) (Nat.le_refl _) _
  have HL := Lib.hid hlow
  have hx := prescale_any w.heap.size (-4) (-2) (-7) hi lo _ _ _ W1 (by omega) (by omega) (by omega) (by omega) (by omega) (by omega) ((hlow.cell (p := ⟨19, ((-2 + 348 : Int).toNat) * 2, none⟩) h19).trans HT0.out) ((hlow.cell (p := ⟨19, ((-2 + 348 : Int).toNat) * 2 + 1, none⟩) h19).trans HT1.out) hbk (by omega)
  have hlt := hbk.lt
  clear hW1 hbk hlow
  go_at_call 103
  refine hx.mono ?_
  rintro e w2 ⟨rfl, hb2, hg2⟩
  have hc2 : w2.cell? ⟨w.heap.size, 2, none⟩ = some (.int .i64 8) := by rw [hb2.cell]; rfl
  have HB2 := Lib.hid hb2
  have HG2 := Lib.hid hg2
  clear hb2 hg2 hx
  go_wp2_with (first | (go_at_call 105; refine (KU.out _ _ HB2.out).mono ?_; rintro e w3 ⟨rfl, n, rfl⟩) | (go_at_call 110; refine (unmin_at _).mono ?_; rintro e w4 ⟨rfl, rfl⟩) | (go_at_call 48; refine (boolI_at _ _).mono ?_; rintro e w4 ⟨rfl, rfl⟩) | (go_at_call 109; refine (K109.out _).mono ?_; rintro e w5 ⟨rfl, rfl⟩) | (go_at_call 126; refine (K126.out _).mono ?_; rintro e w5 ⟨rfl, rfl⟩))
  go_ret2
  exact ⟨rfl, HL.out.trans ⟨HG2.out.os, HG2.out.tape, HG2.out.output, HG2.out.size, fun i hi => HG2.out.block i (by omega) (fun e => by injection e; omega)⟩⟩

set_option maxRecDepth 100000 in
set_option maxHeartbeats 2000000 in
theorem parse_54_2t (D S U X m res : Nat) (hb : Lib.bitLen D = 54) (hD : D < 18014398509481984) (hi lo : Nat) (hc : decide (36028797018963966 ≤ (U : Int)) = true) (hand : bits .and .u64 (U : Int) 1 = 0) (hX : bits .or .u64 ((U : Int) / 2) 0 = (X : Int))
    (h109 : ∀ W, Calls Tryz.prog 109 #[.int .u64 (X : Int)] W fun e w' => e = .returned (.int .u64 (m : Int)) ∧ W = w') (hor : bits .or .u64 (S : Int) (m : Int) = ((S + m : Nat) : Int))
    (h126 : ∀ W, Calls Tryz.prog 126 #[.int .u64 ((S + m : Nat) : Int), .int .i64 (-5)] W fun e w' => e = .returned (.tuple #[.float .f64 res, .nilIface]) ∧ W = w')
    (w : World) (t0 : w.cell? ⟨19, ((-2 + 348 : Int).toNat) * 2, none⟩ = some (.int .u64 hi)) (t1 : w.cell? ⟨19, ((-2 + 348 : Int).toNat) * 2 + 1, none⟩ = some (.int .u64 lo)) (h19 : 19 < w.heap.size)
    (hU : ∀ (W : World) (g : Nat), Blk W g 151 #[.int .u64 hi, .int .u64 lo, .int .i64 8] → Calls Tryz.prog 105 #[.int .u64 ((D * 1024 : Nat) : Int), .pointer (some ⟨g, 0, none⟩)] W fun e w' => e = .returned (.int .u64 (U : Nat)) ∧ ∃ n, w' = W.drewN n) :
    Calls Tryz.prog 98 #[.int .u64 D, .int .i64 (-2), .int .u64 S] w fun e' w' => e' = .returned (.tuple #[.float .f64 res, .nilIface]) ∧ Below w.heap.size w w' := by
  have K47 := Lib.hid (len_at D 54 (by omega) hb w)
  have HT0 := Lib.hid t0
  have HT1 := Lib.hid t1
  have KU := Lib.hid hU
  have K109 := Lib.hid h109
  have K126 := Lib.hid h126
  have K104 := Lib.hid (log2Pow10_any (-2) (by omega) (by omega) w)
  clear hb t0 t1 hU h109 h126
  have hmin : (min 1074 6 : Int) = 6 := by decide
  generalize hSM : ((S + m : Nat) : Int) = SM at *
  go_enter Tryz.func98, Tryz.ntmps98
  go_wp2_with (first | (go_at_call 47; refine K47.out.mono ?_; rintro e w' ⟨rfl, rfl⟩) | (go_at_call 104; refine K104.out.mono ?_; rintro e w' ⟨rfl, rfl⟩))
  generalize hW1 : World.alloc w _ = W1
  have hbk : Blk W1 w.heap.size 151 #[.int .u64 0, .int .u64 0, .int .i64 0] := by
    rw [← hW1]
    exact Blk.new w _ _
  have hlow : Below w.heap.size w W1 := by
    rw [← hW1]
    exact below_alloc (Below.refl _ _) (Nat.le_refl _) _
  have HL := Lib.hid hlow
  have hx := prescale_any w.heap.size (-4) (-2) (-7) hi lo _ _ _ W1 (by omega) (by omega) (by omega) (by omega) (by omega) (by omega) ((hlow.cell (p := ⟨19, ((-2 + 348 : Int).toNat) * 2, none⟩) h19).trans HT0.out) ((hlow.cell (p := ⟨19, ((-2 + 348 : Int).toNat) * 2 + 1, none⟩) h19).trans HT1.out) hbk (by omega)
  have hlt := hbk.lt
  clear hW1 hbk hlow
  go_at_call 103
  refine hx.mono ?_
  rintro e w2 ⟨rfl, hb2, hg2⟩
  have hc2 : w2.cell? ⟨w.heap.size, 2, none⟩ = some (.int .i64 8) := by rw [hb2.cell]; rfl
  have HB2 := Lib.hid hb2
  have HG2 := Lib.hid hg2
  clear hb2 hg2 hx
  go_wp2_with (first | (go_at_call 105; refine (KU.out _ _ HB2.out).mono ?_; rintro e w3 ⟨rfl, n, rfl⟩) | (go_at_call 110; refine (unmin_at _).mono ?_; rintro e w4 ⟨rfl, rfl⟩) | (go_at_call 48; refine (boolI_at _ _).mono ?_; rintro e w4 ⟨rfl, rfl⟩) | (go_at_call 109; refine (K109.out _).mono ?_; rintro e w5 ⟨rfl, rfl⟩) | (go_at_call 126; refine (K126.out _).mono ?_; rintro e w5 ⟨rfl, rfl⟩))
  go_ret2
  exact ⟨rfl, HL.out.trans ⟨HG2.out.os, HG2.out.tape, HG2.out.output, HG2.out.size, fun i hi => HG2.out.block i (by omega) (fun e => by injection e; omega)⟩⟩

set_option maxRecDepth 100000 in
set_option maxHeartbeats 2000000 in
theorem parse_54_3f (D S U X m res : Nat) (hb : Lib.bitLen D = 54) (hD : D < 18014398509481984) (hi lo : Nat) (hc : decide (36028797018963966 ≤ (U : Int)) = false) (hand : bits .and .u64 (U : Int) 1 = 0) (hX : bits .or .u64 ((U : Int)) 0 = (X : Int))
    (h109 : ∀ W, Calls Tryz.prog 109 #[.int .u64 (X : Int)] W fun e w' => e = .returned (.int .u64 (m : Int)) ∧ W = w') (hor : bits .or .u64 (S : Int) (m : Int) = ((S + m : Nat) : Int))
    (h126 : ∀ W, Calls Tryz.prog 126 #[.int .u64 ((S + m : Nat) : Int), .int .i64 (-9)] W fun e w' => e = .returned (.tuple #[.float .f64 res, .nilIface]) ∧ W = w')
    (w : World) (t0 : w.cell? ⟨19, ((-3 + 348 : Int).toNat) * 2, none⟩ = some (.int .u64 hi)) (t1 : w.cell? ⟨19, ((-3 + 348 : Int).toNat) * 2 + 1, none⟩ = some (.int .u64 lo)) (h19 : 19 < w.heap.size)
    (hU : ∀ (W : World) (g : Nat), Blk W g 151 #[.int .u64 hi, .int .u64 lo, .int .i64 8] → Calls Tryz.prog 105 #[.int .u64 ((D * 1024 : Nat) : Int), .pointer (some ⟨g, 0, none⟩)] W fun e w' => e = .returned (.int .u64 (U : Nat)) ∧ ∃ n, w' = W.drewN n) :
    Calls Tryz.prog 98 #[.int .u64 D, .int .i64 (-3), .int .u64 S] w fun e' w' => e' = .returned (.tuple #[.float .f64 res, .nilIface]) ∧ Below w.heap.size w w' := by
  have K47 := Lib.hid (len_at D 54 (by omega) hb w)
  have HT0 := Lib.hid t0
  have HT1 := Lib.hid t1
  have KU := Lib.hid hU
  have K109 := Lib.hid h109
  have K126 := Lib.hid h126
  have K104 := Lib.hid (log2Pow10_any (-3) (by omega) (by omega) w)
  clear hb t0 t1 hU h109 h126
  have hmin : (min 1074 9 : Int) = 9 := by decide
  generalize hSM : ((S + m : Nat) : Int) = SM at *
  go_enter Tryz.func98, Tryz.ntmps98
  go_wp2_with (first | (go_at_call 47; refine K47.out.mono ?_; rintro e w' ⟨rfl, rfl⟩) | (go_at_call 104; refine K104.out.mono ?_; rintro e w' ⟨rfl, rfl⟩))
  generalize hW1 : World.alloc w _ = W1
  have hbk : Blk W1 w.heap.size 151 #[.int .u64 0, .int .u64 0, .int .i64 0] := by
    rw [← hW1]
    exact Blk.new w _ _
  have hlow : Below w.heap.size w W1 := by
    rw [← hW1]
    exact below_alloc (Below.refl _ _) (Nat.le_refl _) _
  have HL := Lib.hid hlow
  have hx := prescale_any w.heap.size (-1) (-3) (-10) hi lo _ _ _ W1 (by omega) (by omega) (by omega) (by omega) (by omega) (by omega) ((hlow.cell (p := ⟨19, ((-3 + 348 : Int).toNat) * 2, none⟩) h19).trans HT0.out) ((hlow.cell (p := ⟨19, ((-3 + 348 : Int).toNat) * 2 + 1, none⟩) h19).trans HT1.out) hbk (by omega)
  have hlt := hbk.lt
  clear hW1 hbk hlow
  go_at_call 103
  refine hx.mono ?_
  rintro e w2 ⟨rfl, hb2, hg2⟩
  have hc2 : w2.cell? ⟨w.heap.size, 2, none⟩ = some (.int .i64 8) := by rw [hb2.cell]; rfl
  have HB2 := Lib.hid hb2
  have HG2 := Lib.hid hg2
  clear hb2 hg2 hx
  go_wp2_with (first | (go_at_call 105; refine (KU.out _ _ HB2.out).mono ?_; rintro e w3 ⟨rfl, n, rfl⟩) | (go_at_call 110; refine (unmin_at _).mono ?_; rintro e w4 ⟨rfl, rfl⟩) | (go_at_call 48; refine (boolI_at _ _).mono ?_; rintro e w4 ⟨rfl, rfl⟩) | (go_at_call 109; refine (K109.out _).mono ?_; rintro e w5 ⟨rfl, rfl⟩) | (go_at_call 126; refine (K126.out _).mono ?_; rintro e w5 ⟨rfl, rfl⟩))
  go_ret2
  exact ⟨rfl, HL.out.trans ⟨HG2.out.os, HG2.out.tape, HG2.out.output, HG2.out.size, fun i hi => HG2.out.block i (by omega) (fun e => by injection e; omega)⟩⟩

set_option maxRecDepth 100000 in
set_option maxHeartbeats 2000000 in
theorem parse_54_3t (D S U X m res : Nat) (hb : Lib.bitLen D = 54) (hD : D < 18014398509481984) (hi lo : Nat) (hc : decide (36028797018963966 ≤ (U : Int)) = true) (hand : bits .and .u64 (U : Int) 1 = 0) (hX : bits .or .u64 ((U : Int) / 2) 0 = (X : Int))
    (h109 : ∀ W, Calls Tryz.prog 109 #[.int .u64 (X : Int)] W fun e w' => e = .returned (.int .u64 (m : Int)) ∧ W = w') (hor : bits .or .u64 (S : Int) (m : Int) = ((S + m : Nat) : Int))
    (h126 : ∀ W, Calls Tryz.prog 126 #[.int .u64 ((S + m : Nat) : Int), .int .i64 (-8)] W fun e w' => e = .returned (.tuple #[.float .f64 res, .nilIface]) ∧ W = w')
    (w : World) (t0 : w.cell? ⟨19, ((-3 + 348 : Int).toNat) * 2, none⟩ = some (.int .u64 hi)) (t1 : w.cell? ⟨19, ((-3 + 348 : Int).toNat) * 2 + 1, none⟩ = some (.int .u64 lo)) (h19 : 19 < w.heap.size)
    (hU : ∀ (W : World) (g : Nat), Blk W g 151 #[.int .u64 hi, .int .u64 lo, .int .i64 8] → Calls Tryz.prog 105 #[.int .u64 ((D * 1024 : Nat) : Int), .pointer (some ⟨g, 0, none⟩)] W fun e w' => e = .returned (.int .u64 (U : Nat)) ∧ ∃ n, w' = W.drewN n) :
    Calls Tryz.prog 98 #[.int .u64 D, .int .i64 (-3), .int .u64 S] w fun e' w' => e' = .returned (.tuple #[.float .f64 res, .nilIface]) ∧ Below w.heap.size w w' := by
  have K47 := Lib.hid (len_at D 54 (by omega) hb w)
  have HT0 := Lib.hid t0
  have HT1 := Lib.hid t1
  have KU := Lib.hid hU
  have K109 := Lib.hid h109
  have K126 := Lib.hid h126
  have K104 := Lib.hid (log2Pow10_any (-3) (by omega) (by omega) w)
  clear hb t0 t1 hU h109 h126
  have hmin : (min 1074 9 : Int) = 9 := by decide
  generalize hSM : ((S + m : Nat) : Int) = SM at *
  go_enter Tryz.func98, Tryz.ntmps98
  go_wp2_with (first | (go_at_call 47; refine K47.out.mono ?_; rintro e w' ⟨rfl, rfl⟩) | (go_at_call 104; refine K104.out.mono ?_; rintro e w' ⟨rfl, rfl⟩))
  generalize hW1 : World.alloc w _ = W1
  have hbk : Blk W1 w.heap.size 151 #[.int .u64 0, .int .u64 0, .int .i64 0] := by
    rw [← hW1]
    exact Blk.new w _ _
  have hlow : Below w.heap.size w W1 := by
    rw [← hW1]
    exact below_alloc (Below.refl _ _) (Nat.le_refl _) _
  have HL := Lib.hid hlow
  have hx := prescale_any w.heap.size (-1) (-3) (-10) hi lo _ _ _ W1 (by omega) (by omega) (by omega) (by omega) (by omega) (by omega) ((hlow.cell (p := ⟨19, ((-3 + 348 : Int).toNat) * 2, none⟩) h19).trans HT0.out) ((hlow.cell (p := ⟨19, ((-3 + 348 : Int).toNat) * 2 + 1, none⟩) h19).trans HT1.out) hbk (by omega)
  have hlt := hbk.lt
  clear hW1 hbk hlow
  go_at_call 103
  refine hx.mono ?_
  rintro e w2 ⟨rfl, hb2, hg2⟩
  have hc2 : w2.cell? ⟨w.heap.size, 2, none⟩ = some (.int .i64 8) := by rw [hb2.cell]; rfl
  have HB2 := Lib.hid hb2
  have HG2 := Lib.hid hg2
  clear hb2 hg2 hx
  go_wp2_with (first | (go_at_call 105; refine (KU.out _ _ HB2.out).mono ?_; rintro e w3 ⟨rfl, n, rfl⟩) | (go_at_call 110; refine (unmin_at _).mono ?_; rintro e w4 ⟨rfl, rfl⟩) | (go_at_call 48; refine (boolI_at _ _).mono ?_; rintro e w4 ⟨rfl, rfl⟩) | (go_at_call 109; refine (K109.out _).mono ?_; rintro e w5 ⟨rfl, rfl⟩) | (go_at_call 126; refine (K126.out _).mono ?_; rintro e w5 ⟨rfl, rfl⟩))
  go_ret2
  exact ⟨rfl, HL.out.trans ⟨HG2.out.os, HG2.out.tape, HG2.out.output, HG2.out.size, fun i hi => HG2.out.block i (by omega) (fun e => by injection e; omega)⟩⟩

set_option maxRecDepth 100000 in
set_option maxHeartbeats 2000000 in
theorem parse_55_2f (D S U X m res : Nat) (hb : Lib.bitLen D = 55) (hD : D < 36028797018963968) (hi lo : Nat) (hc : decide (36028797018963966 ≤ (U : Int)) = false) (hand : bits .and .u64 (U : Int) 1 = 0) (hX : bits .or .u64 ((U : Int)) 0 = (X : Int))
    (h109 : ∀ W, Calls Tryz.prog 109 #[.int .u64 (X : Int)] W fun e w' => e = .returned (.int .u64 (m : Int)) ∧ W = w') (hor : bits .or .u64 (S : Int) (m : Int) = ((S + m : Nat) : Int))
    (h126 : ∀ W, Calls Tryz.prog 126 #[.int .u64 ((S + m : Nat) : Int), .int .i64 (-5)] W fun e w' => e = .returned (.tuple #[.float .f64 res, .nilIface]) ∧ W = w')
    (w : World) (t0 : w.cell? ⟨19, ((-2 + 348 : Int).toNat) * 2, none⟩ = some (.int .u64 hi)) (t1 : w.cell? ⟨19, ((-2 + 348 : Int).toNat) * 2 + 1, none⟩ = some (.int .u64 lo)) (h19 : 19 < w.heap.size)
    (hU : ∀ (W : World) (g : Nat), Blk W g 151 #[.int .u64 hi, .int .u64 lo, .int .i64 8] → Calls Tryz.prog 105 #[.int .u64 ((D * 512 : Nat) : Int), .pointer (some ⟨g, 0, none⟩)] W fun e w' => e = .returned (.int .u64 (U : Nat)) ∧ ∃ n, w' = W.drewN n) :
    Calls Tryz.prog 98 #[.int .u64 D, .int .i64 (-2), .int .u64 S] w fun e' w' => e' = .returned (.tuple #[.float .f64 res, .nilIface]) ∧ Below w.heap.size w w' := by
  have K47 := Lib.hid (len_at D 55 (by omega) hb w)
  have HT0 := Lib.hid t0
  have HT1 := Lib.hid t1
  have KU := Lib.hid hU
  have K109 := Lib.hid h109
  have K126 := Lib.hid h126
  have K104 := Lib.hid (log2Pow10_any (-2) (by omega) (by omega) w)
  clear hb t0 t1 hU h109 h126
  have hmin : (min 1074 5 : Int) = 5 := by decide
  generalize hSM : ((S + m : Nat) : Int) = SM at *
  go_enter Tryz.func98, Tryz.ntmps98
  go_wp2_with (first | (go_at_call 47; refine K47.out.mono ?_; rintro e w' ⟨rfl, rfl⟩) | (go_at_call 104; refine K104.out.mono ?_; rintro e w' ⟨rfl, rfl⟩))
  generalize hW1 : World.alloc w _ = W1
  have hbk : Blk W1 w.heap.size 151 #[.int .u64 0, .int .u64 0, .int .i64 0] := by
    rw [← hW1]
    exact Blk.new w _ _
  have hlow : Below w.heap.size w W1 := by
    rw [← hW1]
    exact below_alloc (Below.refl _ _) (Nat.le_refl _) _
  have HL := Lib.hid hlow
  have hx := prescale_any w.heap.size (-4) (-2) (-7) hi lo _ _ _ W1 (by omega) (by omega) (by omega) (by omega) (by omega) (by omega) ((hlow.cell (p := ⟨19, ((-2 + 348 : Int).toNat) * 2, none⟩) h19).trans HT0.out) ((hlow.cell (p := ⟨19, ((-2 + 348 : Int).toNat) * 2 + 1, none⟩) h19).trans HT1.out) hbk (by omega)
  have hlt := hbk.lt
  clear hW1 hbk hlow
  go_at_call 103
  refine hx.mono ?_
  rintro e w2 ⟨rfl, hb2, hg2⟩
  have hc2 : w2.cell? ⟨w.heap.size, 2, none⟩ = some (.int .i64 8) := by rw [hb2.cell]; rfl
  have HB2 := Lib.hid hb2
  have HG2 := Lib.hid hg2
  clear hb2 hg2 hx
  go_wp2_with (first | (go_at_call 105; refine (KU.out _ _ HB2.out).mono ?_; rintro e w3 ⟨rfl, n, rfl⟩) | (go_at_call 110; refine (unmin_at _).mono ?_; rintro e w4 ⟨rfl, rfl⟩) | (go_at_call 48; refine (boolI_at _ _).mono ?_; rintro e w4 ⟨rfl, rfl⟩) | (go_at_call 109; refine (K109.out _).mono ?_; rintro e w5 ⟨rfl, rfl⟩) | (go_at_call 126; refine (K126.out _).mono ?_; rintro e w5 ⟨rfl, rfl⟩))
  go_ret2
  exact ⟨rfl, HL.out.trans ⟨HG2.out.os, HG2.out.tape, HG2.out.output, HG2.out.size, fun i hi => HG2.out.block i (by omega) (fun e => by injection e; omega)⟩⟩

set_option maxRecDepth 100000 in
set_option maxHeartbeats 2000000 in
theorem parse_55_2t (D S U X m res : Nat) (hb : Lib.bitLen D = 55) (hD : D < 36028797018963968) (hi lo : Nat) (hc : decide (36028797018963966 ≤ (U : Int)) = true) (hand : bits .and .u64 (U : Int) 1 = 0) (hX : bits .or .u64 ((U : Int) / 2) 0 = (X : Int))
    (h109 : ∀ W, Calls Tryz.prog 109 #[.int .u64 (X : Int)] W fun e w' => e = .returned (.int .u64 (m : Int)) ∧ W = w') (hor : bits .or .u64 (S : Int) (m : Int) = ((S + m : Nat) : Int))
    (h126 : ∀ W, Calls Tryz.prog 126 #[.int .u64 ((S + m : Nat) : Int), .int .i64 (-4)] W fun e w' => e = .returned (.tuple #[.float .f64 res, .nilIface]) ∧ W = w')
    (w : World) (t0 : w.cell? ⟨19, ((-2 + 348 : Int).toNat) * 2, none⟩ = some (.int .u64 hi)) (t1 : w.cell? ⟨19, ((-2 + 348 : Int).toNat) * 2 + 1, none⟩ = some (.int .u64 lo)) (h19 : 19 < w.heap.size)
    (hU : ∀ (W : World) (g : Nat), Blk W g 151 #[.int .u64 hi, .int .u64 lo, .int .i64 8] → Calls Tryz.prog 105 #[.int .u64 ((D * 512 : Nat) : Int), .pointer (some ⟨g, 0, none⟩)] W fun e w' => e = .returned (.int .u64 (U : Nat)) ∧ ∃ n, w' = W.drewN n) :
    Calls Tryz.prog 98 #[.int .u64 D, .int .i64 (-2), .int .u64 S] w fun e' w' => e' = .returned (.tuple #[.float .f64 res, .nilIface]) ∧ Below w.heap.size w w' := by
  have K47 := Lib.hid (len_at D 55 (by omega) hb w)
  have HT0 := Lib.hid t0
  have HT1 := Lib.hid t1
  have KU := Lib.hid hU
  have K109 := Lib.hid h109
  have K126 := Lib.hid h126
  have K104 := Lib.hid (log2Pow10_any (-2) (by omega) (by omega) w)
  clear hb t0 t1 hU h109 h126
  have hmin : (min 1074 5 : Int) = 5 := by decide
  generalize hSM : ((S + m : Nat) : Int) = SM at *
  go_enter Tryz.func98, Tryz.ntmps98
  go_wp2_with (first | (go_at_call 47; refine K47.out.mono ?_; rintro e w' ⟨rfl, rfl⟩) | (go_at_call 104; refine K104.out.mono ?_; rintro e w' ⟨rfl, rfl⟩))
  generalize hW1 : World.alloc w _ = W1
  have hbk : Blk W1 w.heap.size 151 #[.int .u64 0, .int .u64 0, .int .i64 0] := by
    rw [← hW1]
    exact Blk.new w _ _
  have hlow : Below w.heap.size w W1 := by
    rw [← hW1]
    exact below_alloc (Below.refl _ _) (Nat.le_refl _) _
  have HL := Lib.hid hlow
  have hx := prescale_any w.heap.size (-4) (-2) (-7) hi lo _ _ _ W1 (by omega) (by omega) (by omega) (by omega) (by omega) (by omega) ((hlow.cell (p := ⟨19, ((-2 + 348 : Int).toNat) * 2, none⟩) h19).trans HT0.out) ((hlow.cell (p := ⟨19, ((-2 + 348 : Int).toNat) * 2 + 1, none⟩) h19).trans HT1.out) hbk (by omega)
  have hlt := hbk.lt
  clear hW1 hbk hlow
  go_at_call 103
  refine hx.mono ?_
  rintro e w2 ⟨rfl, hb2, hg2⟩
  have hc2 : w2.cell? ⟨w.heap.size, 2, none⟩ = some (.int .i64 8) := by rw [hb2.cell]; rfl
  have HB2 := Lib.hid hb2
  have HG2 := Lib.hid hg2
  clear hb2 hg2 hx
  go_wp2_with (first | (go_at_call 105; refine (KU.out _ _ HB2.out).mono ?_; rintro e w3 ⟨rfl, n, rfl⟩) | (go_at_call 110; refine (unmin_at _).mono ?_; rintro e w4 ⟨rfl, rfl⟩) | (go_at_call 48; refine (boolI_at _ _).mono ?_; rintro e w4 ⟨rfl, rfl⟩) | (go_at_call 109; refine (K109.out _).mono ?_; rintro e w5 ⟨rfl, rfl⟩) | (go_at_call 126; refine (K126.out _).mono ?_; rintro e w5 ⟨rfl, rfl⟩))
  go_ret2
  exact ⟨rfl, HL.out.trans ⟨HG2.out.os, HG2.out.tape, HG2.out.output, HG2.out.size, fun i hi => HG2.out.block i (by omega) (fun e => by injection e; omega)⟩⟩

set_option maxRecDepth 100000 in
set_option maxHeartbeats 2000000 in
theorem parse_55_3f (D S U X m res : Nat) (hb : Lib.bitLen D = 55) (hD : D < 36028797018963968) (hi lo : Nat) (hc : decide (36028797018963966 ≤ (U : Int)) = false) (hand : bits .and .u64 (U : Int) 1 = 0) (hX : bits .or .u64 ((U : Int)) 0 = (X : Int))
    (h109 : ∀ W, Calls Tryz.prog 109 #[.int .u64 (X : Int)] W fun e w' => e = .returned (.int .u64 (m : Int)) ∧ W = w') (hor : bits .or .u64 (S : Int) (m : Int) = ((S + m : Nat) : Int))
    (h126 : ∀ W, Calls Tryz.prog 126 #[.int .u64 ((S + m : Nat) : Int), .int .i64 (-8)] W fun e w' => e = .returned (.tuple #[.float .f64 res, .nilIface]) ∧ W = w')
    (w : World) (t0 : w.cell? ⟨19, ((-3 + 348 : Int).toNat) * 2, none⟩ = some (.int .u64 hi)) (t1 : w.cell? ⟨19, ((-3 + 348 : Int).toNat) * 2 + 1, none⟩ = some (.int .u64 lo)) (h19 : 19 < w.heap.size)
    (hU : ∀ (W : World) (g : Nat), Blk W g 151 #[.int .u64 hi, .int .u64 lo, .int .i64 8] → Calls Tryz.prog 105 #[.int .u64 ((D * 512 : Nat) : Int), .pointer (some ⟨g, 0, none⟩)] W fun e w' => e = .returned (.int .u64 (U : Nat)) ∧ ∃ n, w' = W.drewN n) :
    Calls Tryz.prog 98 #[.int .u64 D, .int .i64 (-3), .int .u64 S] w fun e' w' => e' = .returned (.tuple #[.float .f64 res, .nilIface]) ∧ Below w.heap.size w w' := by
  have K47 := Lib.hid (len_at D 55 (by omega) hb w)
  have HT0 := Lib.hid t0
  have HT1 := Lib.hid t1
  have KU := Lib.hid hU
  have K109 := Lib.hid h109
  have K126 := Lib.hid h126
  have K104 := Lib.hid (log2Pow10_any (-3) (by omega) (by omega) w)
  clear hb t0 t1 hU h109 h126
  have hmin : (min 1074 8 : Int) = 8 := by decide
  generalize hSM : ((S + m : Nat) : Int) = SM at *
  go_enter Tryz.func98, Tryz.ntmps98
  go_wp2_with (first | (go_at_call 47; refine K47.out.mono ?_; rintro e w' ⟨rfl, rfl⟩) | (go_at_call 104; refine K104.out.mono ?_; rintro e w' ⟨rfl, rfl⟩))
  generalize hW1 : World.alloc w _ = W1
  have hbk : Blk W1 w.heap.size 151 #[.int .u64 0, .int .u64 0, .int .i64 0] := by
    rw [← hW1]
    exact Blk.new w _ _
  have hlow : Below w.heap.size w W1 := by
    rw [← hW1]
    exact below_alloc (Below.refl _ _) (Nat.le_refl _) _
  have HL := Lib.hid hlow
  have hx := prescale_any w.heap.size (-1) (-3) (-10) hi lo _ _ _ W1 (by omega) (by omega) (by omega) (by omega) (by omega) (by omega) ((hlow.cell (p := ⟨19, ((-3 + 348 : Int).toNat) * 2, none⟩) h19).trans HT0.out) ((hlow.cell (p := ⟨19, ((-3 + 348 : Int).toNat) * 2 + 1, none⟩) h19).trans HT1.out) hbk (by omega)
  have hlt := hbk.lt
  clear hW1 hbk hlow
  go_at_call 103
  refine hx.mono ?_
  rintro e w2 ⟨rfl, hb2, hg2⟩
  have hc2 : w2.cell? ⟨w.heap.size, 2, none⟩ = some (.int .i64 8) := by rw [hb2.cell]; rfl
  have HB2 := Lib.hid hb2
  have HG2 := Lib.hid hg2
  clear hb2 hg2 hx
  go_wp2_with (first | (go_at_call 105; refine (KU.out _ _ HB2.out).mono ?_; rintro e w3 ⟨rfl, n, rfl⟩) | (go_at_call 110; refine (unmin_at _).mono ?_; rintro e w4 ⟨rfl, rfl⟩) | (go_at_call 48; refine (boolI_at _ _).mono ?_; rintro e w4 ⟨rfl, rfl⟩) | (go_at_call 109; refine (K109.out _).mono ?_; rintro e w5 ⟨rfl, rfl⟩) | (go_at_call 126; refine (K126.out _).mono ?_; rintro e w5 ⟨rfl, rfl⟩))
  go_ret2
  exact ⟨rfl, HL.out.trans ⟨HG2.out.os, HG2.out.tape, HG2.out.output, HG2.out.size, fun i hi => HG2.out.block i (by omega) (fun e => by injection e; omega)⟩⟩

set_option maxRecDepth 100000 in
set_option maxHeartbeats 2000000 in
theorem parse_55_3t (D S U X m res : Nat) (hb : Lib.bitLen D = 55) (hD : D < 36028797018963968) (hi lo : Nat) (hc : decide (36028797018963966 ≤ (U : Int)) = true) (hand : bits .and .u64 (U : Int) 1 = 0) (hX : bits .or .u64 ((U : Int) / 2) 0 = (X : Int))
    (h109 : ∀ W, Calls Tryz.prog 109 #[.int .u64 (X : Int)] W fun e w' => e = .returned (.int .u64 (m : Int)) ∧ W = w') (hor : bits .or .u64 (S : Int) (m : Int) = ((S + m : Nat) : Int))
    (h126 : ∀ W, Calls Tryz.prog 126 #[.int .u64 ((S + m : Nat) : Int), .int .i64 (-7)] W fun e w' => e = .returned (.tuple #[.float .f64 res, .nilIface]) ∧ W = w')
    (w : World) (t0 : w.cell? ⟨19, ((-3 + 348 : Int).toNat) * 2, none⟩ = some (.int .u64 hi)) (t1 : w.cell? ⟨19, ((-3 + 348 : Int).toNat) * 2 + 1, none⟩ = some (.int .u64 lo)) (h19 : 19 < w.heap.size)
    (hU : ∀ (W : World) (g : Nat), Blk W g 151 #[.int .u64 hi, .int .u64 lo, .int .i64 8] → Calls Tryz.prog 105 #[.int .u64 ((D * 512 : Nat) : Int), .pointer (some ⟨g, 0, none⟩)] W fun e w' => e = .returned (.int .u64 (U : Nat)) ∧ ∃ n, w' = W.drewN n) :
    Calls Tryz.prog 98 #[.int .u64 D, .int .i64 (-3), .int .u64 S] w fun e' w' => e' = .returned (.tuple #[.float .f64 res, .nilIface]) ∧ Below w.heap.size w w' := by
  have K47 := Lib.hid (len_at D 55 (by omega) hb w)
  have HT0 := Lib.hid t0
  have HT1 := Lib.hid t1
  have KU := Lib.hid hU
  have K109 := Lib.hid h109
  have K126 := Lib.hid h126
  have K104 := Lib.hid (log2Pow10_any (-3) (by omega) (by omega) w)
  clear hb t0 t1 hU h109 h126
  have hmin : (min 1074 8 : Int) = 8 := by decide
  generalize hSM : ((S + m : Nat) : Int) = SM at *
  go_enter Tryz.func98, Tryz.ntmps98
  go_wp2_with (first | (go_at_call 47; refine K47.out.mono ?_; rintro e w' ⟨rfl, rfl⟩) | (go_at_call 104; refine K104.out.mono ?_; rintro e w' ⟨rfl, rfl⟩))
  generalize hW1 : World.alloc w _ = W1
  have hbk : Blk W1 w.heap.size 151 #[.int .u64 0, .int .u64 0, .int .i64 0] := by
    rw [← hW1]
    exact Blk.new w _ _
  have hlow : Below w.heap.size w W1 := by
    rw [← hW1]
    exact below_alloc (Below.refl _ _) (Nat.le_refl _) _
  have HL := Lib.hid hlow
  have hx := prescale_any w.heap.size (-1) (-3) (-10) hi lo _ _ _ W1 (by omega) (by omega) (by omega) (by omega) (by omega) (by omega) ((hlow.cell (p := ⟨19, ((-3 + 348 : Int).toNat) * 2, none⟩) h19).trans HT0.out) ((hlow.cell (p := ⟨19, ((-3 + 348 : Int).toNat) * 2 + 1, none⟩) h19).trans HT1.out) hbk (by omega)
  have hlt := hbk.lt
  clear hW1 hbk hlow
  go_at_call 103
  refine hx.mono ?_
  rintro e w2 ⟨rfl, hb2, hg2⟩
  have hc2 : w2.cell? ⟨w.heap.size, 2, none⟩ = some (.int .i64 8) := by rw [hb2.cell]; rfl
  have HB2 := Lib.hid hb2
  have HG2 := Lib.hid hg2
  clear hb2 hg2 hx
  go_wp2_with (first | (go_at_call 105; refine (KU.out _ _ HB2.out).mono ?_; rintro e w3 ⟨rfl, n, rfl⟩) | (go_at_call 110; refine (unmin_at _).mono ?_; rintro e w4 ⟨rfl, rfl⟩) | (go_at_call 48; refine (boolI_at _ _).mono ?_; rintro e w4 ⟨rfl, rfl⟩) | (go_at_call 109; refine (K109.out _).mono ?_; rintro e w5 ⟨rfl, rfl⟩) | (go_at_call 126; refine (K126.out _).mono ?_; rintro e w5 ⟨rfl, rfl⟩))
  go_ret2
  exact ⟨rfl, HL.out.trans ⟨HG2.out.os, HG2.out.tape, HG2.out.output, HG2.out.size, fun i hi => HG2.out.block i (by omega) (fun e => by injection e; omega)⟩⟩

set_option maxRecDepth 100000 in
set_option maxHeartbeats 2000000 in
theorem parse_56_2f (D S U X m res : Nat) (hb : Lib.bitLen D = 56) (hD : D < 72057594037927936) (hi lo : Nat) (hc : decide (36028797018963966 ≤ (U : Int)) = false) (hand : bits .and .u64 (U : Int) 1 = 0) (hX : bits .or .u64 ((U : Int)) 0 = (X : Int))
    (h109 : ∀ W, Calls Tryz.prog 109 #[.int .u64 (X : Int)] W fun e w' => e = .returned (.int .u64 (m : Int)) ∧ W = w') (hor : bits .or .u64 (S : Int) (m : Int) = ((S + m : Nat) : Int))
    (h126 : ∀ W, Calls Tryz.prog 126 #[.int .u64 ((S + m : Nat) : Int), .int .i64 (-4)] W fun e w' => e = .returned (.tuple #[.float .f64 res, .nilIface]) ∧ W = w')
    (w : World) (t0 : w.cell? ⟨19, ((-2 + 348 : Int).toNat) * 2, none⟩ = some (.int .u64 hi)) (t1 : w.cell? ⟨19, ((-2 + 348 : Int).toNat) * 2 + 1, none⟩ = some (.int .u64 lo)) (h19 : 19 < w.heap.size)
    (hU : ∀ (W : World) (g : Nat), Blk W g 151 #[.int .u64 hi, .int .u64 lo, .int .i64 8] → Calls Tryz.prog 105 #[.int .u64 ((D * 256 : Nat) : Int), .pointer (some ⟨g, 0, none⟩)] W fun e w' => e = .returned (.int .u64 (U : Nat)) ∧ ∃ n, w' = W.drewN n) :
    Calls Tryz.prog 98 #[.int .u64 D, .int .i64 (-2), .int .u64 S] w fun e' w' => e' = .returned (.tuple #[.float .f64 res, .nilIface]) ∧ Below w.heap.size w w' := by
  have K47 := Lib.hid (len_at D 56 (by omega) hb w)
  have HT0 := Lib.hid t0
  have HT1 := Lib.hid t1
  have KU := Lib.hid hU
  have K109 := Lib.hid h109
  have K126 := Lib.hid h126
  have K104 := Lib.hid (log2Pow10_any (-2) (by omega) (by omega) w)
  clear hb t0 t1 hU h109 h126
  have hmin : (min 1074 4 : Int) = 4 := by decide
  generalize hSM : ((S + m : Nat) : Int) = SM at *
  go_enter Tryz.func98, Tryz.ntmps98
  go_wp2_with (first | (go_at_call 47; refine K47.out.mono ?_; rintro e w' ⟨rfl, rfl⟩) | (go_at_call 104; refine K104.out.mono ?_; rintro e w' ⟨rfl, rfl⟩))
  generalize hW1 : World.alloc w _ = W1
  have hbk : Blk W1 w.heap.size 151 #[.int .u64 0, .int .u64 0, .int .i64 0] := by
    rw [← hW1]
    exact Blk.new w _ _
  have hlow : Below w.heap.size w W1 := by
    rw [← hW1]
    exact below_alloc (Below.refl _ _) (Nat.le_refl _) _
  have HL := Lib.hid hlow
  have hx := prescale_any w.heap.size (-4) (-2) (-7) hi lo _ _ _ W1 (by omega) (by omega) (by omega) (by omega) (by omega) (by omega) ((hlow.cell (p := ⟨19, ((-2 + 348 : Int).toNat) * 2, none⟩) h19).trans HT0.out) ((hlow.cell (p := ⟨19, ((-2 + 348 : Int).toNat) * 2 + 1, none⟩) h19).trans HT1.out) hbk (by omega)
  have hlt := hbk.lt
  clear hW1 hbk hlow
  go_at_call 103
  refine hx.mono ?_
  rintro e w2 ⟨rfl, hb2, hg2⟩
  have hc2 : w2.cell? ⟨w.heap.size, 2, none⟩ = some (.int .i64 8) := by rw [hb2.cell]; rfl
  have HB2 := Lib.hid hb2
  have HG2 := Lib.hid hg2
  clear hb2 hg2 hx
  go_wp2_with (first | (go_at_call 105; refine (KU.out _ _ HB2.out).mono ?_; rintro e w3 ⟨rfl, n, rfl⟩) | (go_at_call 110; refine (unmin_at _).mono ?_; rintro e w4 ⟨rfl, rfl⟩) | (go_at_call 48; refine (boolI_at _ _).mono ?_; rintro e w4 ⟨rfl, rfl⟩) | (go_at_call 109; refine (K109.out _).mono ?_; rintro e w5 ⟨rfl, rfl⟩) | (go_at_call 126; refine (K126.out _).mono ?_; rintro e w5 ⟨rfl, rfl⟩))
  go_ret2
  exact ⟨rfl, HL.out.trans ⟨HG2.out.os, HG2.out.tape, HG2.out.output, HG2.out.size, fun i hi => HG2.out.block i (by omega) (fun e => by injection e; omega)⟩⟩

set_option maxRecDepth 100000 in
set_option maxHeartbeats 2000000 in
theorem parse_56_2t (D S U X m res : Nat) (hb : Lib.bitLen D = 56) (hD : D < 72057594037927936) (hi lo : Nat) (hc : decide (36028797018963966 ≤ (U : Int)) = true) (hand : bits .and .u64 (U : Int) 1 = 0) (hX : bits .or .u64 ((U : Int) / 2) 0 = (X : Int))
    (h109 : ∀ W, Calls Tryz.prog 109 #[.int .u64 (X : Int)] W fun e w' => e = .returned (.int .u64 (m : Int)) ∧ W = w') (hor : bits .or .u64 (S : Int) (m : Int) = ((S + m : Nat) : Int))
    (h126 : ∀ W, Calls Tryz.prog 126 #[.int .u64 ((S + m : Nat) : Int), .int .i64 (-3)] W fun e w' => e = .returned (.tuple #[.float .f64 res, .nilIface]) ∧ W = w')
    (w : World) (t0 : w.cell? ⟨19, ((-2 + 348 : Int).toNat) * 2, none⟩ = some (.int .u64 hi)) (t1 : w.cell? ⟨19, ((-2 + 348 : Int).toNat) * 2 + 1, none⟩ = some (.int .u64 lo)) (h19 : 19 < w.heap.size)
    (hU : ∀ (W : World) (g : Nat), Blk W g 151 #[.int .u64 hi, .int .u64 lo, .int .i64 8] → Calls Tryz.prog 105 #[.int .u64 ((D * 256 : Nat) : Int), .pointer (some ⟨g, 0, none⟩)] W fun e w' => e = .returned (.int .u64 (U : Nat)) ∧ ∃ n, w' = W.drewN n) :
    Calls Tryz.prog 98 #[.int .u64 D, .int .i64 (-2), .int .u64 S] w fun e' w' => e' = .returned (.tuple #[.float .f64 res, .nilIface]) ∧ Below w.heap.size w w' := by
  have K47 := Lib.hid (len_at D 56 (by omega) hb w)
  have HT0 := Lib.hid t0
  have HT1 := Lib.hid t1
  have KU := Lib.hid hU
  have K109 := Lib.hid h109
  have K126 := Lib.hid h126
  have K104 := Lib.hid (log2Pow10_any (-2) (by omega) (by omega) w)
  clear hb t0 t1 hU h109 h126
  have hmin : (min 1074 4 : Int) = 4 := by decide
  generalize hSM : ((S + m : Nat) : Int) = SM at *
  go_enter Tryz.func98, Tryz.ntmps98
  go_wp2_with (first | (go_at_call 47; refine K47.out.mono ?_; rintro e w' ⟨rfl, rfl⟩) | (go_at_call 104; refine K104.out.mono ?_; rintro e w' ⟨rfl, rfl⟩))
  generalize hW1 : World.alloc w _ = W1
  have hbk : Blk W1 w.heap.size 151 #[.int .u64 0, .int .u64 0, .int .i64 0] := by
    rw [← hW1]
    exact Blk.new w _ _
  have hlow : Below w.heap.size w W1 := by
    rw [← hW1]
    exact below_alloc (Below.refl _ _) (Nat.le_refl _) _
  have HL := Lib.hid hlow
  have hx := prescale_any w.heap.size (-4) (-2) (-7) hi lo _ _ _ W1 (by omega) (by omega) (by omega) (by omega) (by omega) (by omega) ((hlow.cell (p := ⟨19, ((-2 + 348 : Int).toNat) * 2, none⟩) h19).trans HT0.out) ((hlow.cell (p := ⟨19, ((-2 + 348 : Int).toNat) * 2 + 1, none⟩) h19).trans HT1.out) hbk (by omega)
  have hlt := hbk.lt
  clear hW1 hbk hlow
  go_at_call 103
  refine hx.mono ?_
  rintro e w2 ⟨rfl, hb2, hg2⟩
  have hc2 : w2.cell? ⟨w.heap.size, 2, none⟩ = some (.int .i64 8) := by rw [hb2.cell]; rfl
  have HB2 := Lib.hid hb2
  have HG2 := Lib.hid hg2
  clear hb2 hg2 hx
  go_wp2_with (first | (go_at_call 105; refine (KU.out _ _ HB2.out).mono ?_; rintro e w3 ⟨rfl, n, rfl⟩) | (go_at_call 110; refine (unmin_at _).mono ?_; rintro e w4 ⟨rfl, rfl⟩) | (go_at_call 48; refine (boolI_at _ _).mono ?_; rintro e w4 ⟨rfl, rfl⟩) | (go_at_call 109; refine (K109.out _).mono ?_; rintro e w5 ⟨rfl, rfl⟩) | (go_at_call 126; refine (K126.out _).mono ?_; rintro e w5 ⟨rfl, rfl⟩))
  go_ret2
  exact ⟨rfl, HL.out.trans ⟨HG2.out.os, HG2.out.tape, HG2.out.output, HG2.out.size, fun i hi => HG2.out.block i (by omega) (fun e => by injection e; omega)⟩⟩

set_option maxRecDepth 100000 in
set_option maxHeartbeats 2000000 in
theorem parse_56_3f (D S U X m res : Nat) (hb : Lib.bitLen D = 56) (hD : D < 72057594037927936) (hi lo : Nat) (hc : decide (36028797018963966 ≤ (U : Int)) = false) (hand : bits .and .u64 (U : Int) 1 = 0) (hX : bits .or .u64 ((U : Int)) 0 = (X : Int))
    (h109 : ∀ W, Calls Tryz.prog 109 #[.int .u64 (X : Int)] W fun e w' => e = .returned (.int .u64 (m : Int)) ∧ W = w') (hor : bits .or .u64 (S : Int) (m : Int) = ((S + m : Nat) : Int))
    (h126 : ∀ W, Calls Tryz.prog 126 #[.int .u64 ((S + m : Nat) : Int), .int .i64 (-7)] W fun e w' => e = .returned (.tuple #[.float .f64 res, .nilIface]) ∧ W = w')
    (w : World) (t0 : w.cell? ⟨19, ((-3 + 348 : Int).toNat) * 2, none⟩ = some (.int .u64 hi)) (t1 : w.cell? ⟨19, ((-3 + 348 : Int).toNat) * 2 + 1, none⟩ = some (.int .u64 lo)) (h19 : 19 < w.heap.size)
    (hU : ∀ (W : World) (g : Nat), Blk W g 151 #[.int .u64 hi, .int .u64 lo, .int .i64 8] → Calls Tryz.prog 105 #[.int .u64 ((D * 256 : Nat) : Int), .pointer (some ⟨g, 0, none⟩)] W fun e w' => e = .returned (.int .u64 (U : Nat)) ∧ ∃ n, w' = W.drewN n) :
    Calls Tryz.prog 98 #[.int .u64 D, .int .i64 (-3), .int .u64 S] w fun e' w' => e' = .returned (.tuple #[.float .f64 res, .nilIface]) ∧ Below w.heap.size w w' := by
  have K47 := Lib.hid (len_at D 56 (by omega) hb w)
  have HT0 := Lib.hid t0
  have HT1 := Lib.hid t1
  have KU := Lib.hid hU
  have K109 := Lib.hid h109
  have K126 := Lib.hid h126
  have K104 := Lib.hid (log2Pow10_any (-3) (by omega) (by omega) w)
  clear hb t0 t1 hU h109 h126
  have hmin : (min 1074 7 : Int) = 7 := by decide
  generalize hSM : ((S + m : Nat) : Int) = SM at *
  go_enter Tryz.func98, Tryz.ntmps98
  go_wp2_with (first | (go_at_call 47; refine K47.out.mono ?_; rintro e w' ⟨rfl, rfl⟩) | (go_at_call 104; refine K104.out.mono ?_; rintro e w' ⟨rfl, rfl⟩))
  generalize hW1 : World.alloc w _ = W1
  have hbk : Blk W1 w.heap.size 151 #[.int .u64 0, .int .u64 0, .int .i64 0] := by
    rw [← hW1]
    exact Blk.new w _ _
  have hlow : Below w.heap.size w W1 := by
    rw [← hW1]
    exact below_alloc (Below.refl _ _) (Nat.le_refl _) _
  have HL := Lib.hid hlow
  have hx := prescale_any w.heap.size (-1) (-3) (-10) hi lo _ _ _ W1 (by omega) (by omega) (by omega) (by omega) (by omega) (by omega) ((hlow.cell (p := ⟨19, ((-3 + 348 : Int).toNat) * 2, none⟩) h19).trans HT0.out) ((hlow.cell (p := ⟨19, ((-3 + 348 : Int).toNat) * 2 + 1, none⟩) h19).trans HT1.out) hbk (by omega)
  have hlt := hbk.lt
  clear hW1 hbk hlow
  go_at_call 103
  refine hx.mono ?_
  rintro e w2 ⟨rfl, hb2, hg2⟩
  have hc2 : w2.cell? ⟨w.heap.size, 2, none⟩ = some (.int .i64 8) := by rw [hb2.cell]; rfl
  have HB2 := Lib.hid hb2
  have HG2 := Lib.hid hg2
  clear hb2 hg2 hx
  go_wp2_with (first | (go_at_call 105; refine (KU.out _ _ HB2.out).mono ?_; rintro e w3 ⟨rfl, n, rfl⟩) | (go_at_call 110; refine (unmin_at _).mono ?_; rintro e w4 ⟨rfl, rfl⟩) | (go_at_call 48; refine (boolI_at _ _).mono ?_; rintro e w4 ⟨rfl, rfl⟩) | (go_at_call 109; refine (K109.out _).mono ?_; rintro e w5 ⟨rfl, rfl⟩) | (go_at_call 126; refine (K126.out _).mono ?_; rintro e w5 ⟨rfl, rfl⟩))
  go_ret2
  exact ⟨rfl, HL.out.trans ⟨HG2.out.os, HG2.out.tape, HG2.out.output, HG2.out.size, fun i hi => HG2.out.block i (by omega) (fun e => by injection e; omega)⟩⟩

set_option maxRecDepth 100000 in
set_option maxHeartbeats 2000000 in
theorem parse_56_3t (D S U X m res : Nat) (hb : Lib.bitLen D = 56) (hD : D < 72057594037927936) (hi lo : Nat) (hc : decide (36028797018963966 ≤ (U : Int)) = true) (hand : bits .and .u64 (U : Int) 1 = 0) (hX : bits .or .u64 ((U : Int) / 2) 0 = (X : Int))
    (h109 : ∀ W, Calls Tryz.prog 109 #[.int .u64 (X : Int)] W fun e w' => e = .returned (.int .u64 (m : Int)) ∧ W = w') (hor : bits .or .u64 (S : Int) (m : Int) = ((S + m : Nat) : Int))
    (h126 : ∀ W, Calls Tryz.prog 126 #[.int .u64 ((S + m : Nat) : Int), .int .i64 (-6)] W fun e w' => e = .returned (.tuple #[.float .f64 res, .nilIface]) ∧ W = w')
    (w : World) (t0 : w.cell? ⟨19, ((-3 + 348 : Int).toNat) * 2, none⟩ = some (.int .u64 hi)) (t1 : w.cell? ⟨19, ((-3 + 348 : Int).toNat) * 2 + 1, none⟩ = some (.int .u64 lo)) (h19 : 19 < w.heap.size)
    (hU : ∀ (W : World) (g : Nat), Blk W g 151 #[.int .u64 hi, .int .u64 lo, .int .i64 8] → Calls Tryz.prog 105 #[.int .u64 ((D * 256 : Nat) : Int), .pointer (some ⟨g, 0, none⟩)] W fun e w' => e = .returned (.int .u64 (U : Nat)) ∧ ∃ n, w' = W.drewN n) :
    Calls Tryz.prog 98 #[.int .u64 D, .int .i64 (-3), .int .u64 S] w fun e' w' => e' = .returned (.tuple #[.float .f64 res, .nilIface]) ∧ Below w.heap.size w w' := by
  have K47 := Lib.hid (len_at D 56 (by omega) hb w)
  have HT0 := Lib.hid t0
  have HT1 := Lib.hid t1
  have KU := Lib.hid hU
  have K109 := Lib.hid h109
  have K126 := Lib.hid h126
  have K104 := Lib.hid (log2Pow10_any (-3) (by omega) (by omega) w)
  clear hb t0 t1 hU h109 h126
  have hmin : (min 1074 7 : Int) = 7 := by decide
  generalize hSM : ((S + m : Nat) : Int) = SM at *
  go_enter Tryz.func98, Tryz.ntmps98
  go_wp2_with (first | (go_at_call 47; refine K47.out.mono ?_; rintro e w' ⟨rfl, rfl⟩) | (go_at_call 104; refine K104.out.mono ?_; rintro e w' ⟨rfl, rfl⟩))
  generalize hW1 : World.alloc w _ = W1
  have hbk : Blk W1 w.heap.size 151 #[.int .u64 0, .int .u64 0, .int .i64 0] := by
    rw [← hW1]
    exact Blk.new w _ _
  have hlow : Below w.heap.size w W1 := by
    rw [← hW1]
    exact below_alloc (Below.refl _ _) (Nat.le_refl _) _
  have HL := Lib.hid hlow
  have hx := prescale_any w.heap.size (-1) (-3) (-10) hi lo _ _ _ W1 (by omega) (by omega) (by omega) (by omega) (by omega) (by omega) ((hlow.cell (p := ⟨19, ((-3 + 348 : Int).toNat) * 2, none⟩) h19).trans HT0.out) ((hlow.cell (p := ⟨19, ((-3 + 348 : Int).toNat) * 2 + 1, none⟩) h19).trans HT1.out) hbk (by omega)
  have hlt := hbk.lt
  clear hW1 hbk hlow
  go_at_call 103
  refine hx.mono ?_
  rintro e w2 ⟨rfl, hb2, hg2⟩
  have hc2 : w2.cell? ⟨w.heap.size, 2, none⟩ = some (.int .i64 8) := by rw [hb2.cell]; rfl
  have HB2 := Lib.hid hb2
  have HG2 := Lib.hid hg2
  clear hb2 hg2 hx
  go_wp2_with (first | (go_at_call 105; refine (KU.out _ _ HB2.out).mono ?_; rintro e w3 ⟨rfl, n, rfl⟩) | (go_at_call 110; refine (unmin_at _).mono ?_; rintro e w4 ⟨rfl, rfl⟩) | (go_at_call 48; refine (boolI_at _ _).mono ?_; rintro e w4 ⟨rfl, rfl⟩) | (go_at_call 109; refine (K109.out _).mono ?_; rintro e w5 ⟨rfl, rfl⟩) | (go_at_call 126; refine (K126.out _).mono ?_; rintro e w5 ⟨rfl, rfl⟩))
  go_ret2
  exact ⟨rfl, HL.out.trans ⟨HG2.out.os, HG2.out.tape, HG2.out.output, HG2.out.size, fun i hi => HG2.out.block i (by omega) (fun e => by injection e; omega)⟩⟩

end Go.Proofs.YtlnkieokhefkfaaGreatDoor
