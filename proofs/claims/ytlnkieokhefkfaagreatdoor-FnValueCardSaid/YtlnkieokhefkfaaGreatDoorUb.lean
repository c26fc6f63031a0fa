/-
  internal/strconv.uscale, walked at a shift of 5 to 8: the product's high word cut, its lowest bit set where anything was left over.
-/
import Derived.Test.YtlnkieokhefkfaaGreatDoorUa
import Derived.Test.YtlnkieokhefkfaaGreatDoorShelf
namespace Go.Proofs.YtlnkieokhefkfaaGreatDoor
open Go.RowKit

theorem mul64_at (x y H M : Nat) (hx : x < 18446744073709551616) (hy : y < 18446744073709551616) (e : x * y = H * 18446744073709551616 + M) (hM : M < 18446744073709551616) (w : World) :
    Calls Tryz.prog 127 #[.int .u64 x, .int .u64 y] w fun e w' => e = .returned (.tuple #[.int .u64 H, .int .u64 M]) ∧ w = w' := by
  have e1 : x * y / 18446744073709551616 = H := by omega
  have e2 : x * y % 18446744073709551616 = M := by omega
  refine (Tryz.bits_Mul64 x y hx hy w).mono ?_
  rintro e w' ⟨rfl, rfl⟩
  rw [e1, e2]
  exact ⟨rfl, rfl⟩

theorem boolU_any (b : Bool) (w : World) : Calls Tryz.prog 95 #[.bool b] w fun e w' => e = .returned (.int .u64 (if b then 1 else 0)) ∧ w = w' := by
  cases b <;> (
    go_enter Tryz.func95, Tryz.ntmps95
    go_wp2
    go_ret
    exact ⟨rfl, rfl⟩)

/-- a ||| 1. -/
def orOne (a : Nat) : Nat := a / 2 * 2 + 1
theorem or_one_eq (a : Nat) : a ||| 1 = orOne a := by
  have h1 : a = (a / 2) <<< 1 ||| (a % 2) := by
    rw [← Nat.shiftLeft_add_eq_or_of_lt (by omega)]
    simp only [Nat.shiftLeft_eq]
    omega
  have h2 : (a % 2) ||| 1 = 1 := by
    rcases Nat.mod_two_eq_zero_or_one a with h | h <;> rw [h] <;> rfl
  have h3 : a ||| 1 = (a / 2) <<< 1 ||| 1 := by
    conv => lhs; rw [h1]
    rw [Nat.or_assoc, h2]
  rw [h3, ← Nat.shiftLeft_add_eq_or_of_lt (by omega)]
  simp only [Nat.shiftLeft_eq, orOne]
theorem bits_or_one (a : Nat) (h : a < 18446744073709551616) : bits .or .u64 (a : Int) 1 = ((orOne a : Nat) : Int) := by
  have := u64_or_nat a 1 h (by omega)
  rw [or_one_eq] at this
  exact this
theorem bits_or_zero (a : Nat) (h : a < 18446744073709551616) : bits .or .u64 (a : Int) 0 = (a : Int) := by
  have := u64_or_nat a 0 h (by omega)
  simpa using this

/-- What uscale answers: H: the product's high word; d: the low word, less the correction's high word; s: the shift. -/
def usN (H d s : Nat) : Nat := if H % 2 ^ s = 0 ∧ d ≤ 1 then H / 2 ^ s else orOne (H / 2 ^ s)

set_option maxHeartbeats 800000 in
theorem uscale_rough (x hi H M s : Nat) (b : Nat) (hs : s = 5 ∨ s = 6 ∨ s = 7 ∨ s = 8) (hx : x < 18446744073709551616) (hhi : hi < 18446744073709551616) (hH : H < 18446744073709551616) (e : x * hi = H * 18446744073709551616 + M) (hM : M < 18446744073709551616) (w : World)
    (c0 : w.cell? ⟨b, 0, none⟩ = some (.int .u64 hi)) (c2 : w.cell? ⟨b, 2, none⟩ = some (.int .i64 s)) (hr : ¬ H % 2 ^ s = 0) :
    Calls Tryz.prog 105 #[.int .u64 x, .pointer (some ⟨b, 0, none⟩)] w fun e w' => e = .returned (.int .u64 (orOne (H / 2 ^ s) : Nat)) ∧ w = w' := by
  have HM := mul64_at x hi H M hx hhi e hM
  clear e
  rcases hs with rfl | rfl | rfl | rfl
  · have ha : bits BinOp.and IntKind.i64 5 63 = 5 := by decide +kernel
    have hq : ((H : Int) / 32 * 32 != (H : Int)) = true := by rw [bne_iff_ne]; omega
    have hb := bits_or_one (H / 32) (by omega)
    have he : ((H / 32 : Nat) : Int) = (H : Int) / 32 := by omega
    rw [he] at hb
    have HB := Lib.hid hb
    clear hr hb he
    go_enter Tryz.func105, Tryz.ntmps105
    go_wp2_with (go_at_call 127; refine (HM _).mono ?_; rintro e w' ⟨rfl, rfl⟩)
    go_ret
    exact ⟨by rw [HB.out]; rfl, rfl⟩
  · have ha : bits BinOp.and IntKind.i64 6 63 = 6 := by decide +kernel
    have hq : ((H : Int) / 64 * 64 != (H : Int)) = true := by rw [bne_iff_ne]; omega
    have hb := bits_or_one (H / 64) (by omega)
    have he : ((H / 64 : Nat) : Int) = (H : Int) / 64 := by omega
    rw [he] at hb
    have HB := Lib.hid hb
    clear hr hb he
    go_enter Tryz.func105, Tryz.ntmps105
    go_wp2_with (go_at_call 127; refine (HM _).mono ?_; rintro e w' ⟨rfl, rfl⟩)
    go_ret
    exact ⟨by rw [HB.out]; rfl, rfl⟩
  · have ha : bits BinOp.and IntKind.i64 7 63 = 7 := by decide +kernel
    have hq : ((H : Int) / 128 * 128 != (H : Int)) = true := by rw [bne_iff_ne]; omega
    have hb := bits_or_one (H / 128) (by omega)
    have he : ((H / 128 : Nat) : Int) = (H : Int) / 128 := by omega
    rw [he] at hb
    have HB := Lib.hid hb
    clear hr hb he
    go_enter Tryz.func105, Tryz.ntmps105
    go_wp2_with (go_at_call 127; refine (HM _).mono ?_; rintro e w' ⟨rfl, rfl⟩)
    go_ret
    exact ⟨by rw [HB.out]; rfl, rfl⟩
  · have ha : bits BinOp.and IntKind.i64 8 63 = 8 := by decide +kernel
    have hq : ((H : Int) / 256 * 256 != (H : Int)) = true := by rw [bne_iff_ne]; omega
    have hb := bits_or_one (H / 256) (by omega)
    have he : ((H / 256 : Nat) : Int) = (H : Int) / 256 := by omega
    rw [he] at hb
    have HB := Lib.hid hb
    clear hr hb he
    go_enter Tryz.func105, Tryz.ntmps105
    go_wp2_with (go_at_call 127; refine (HM _).mono ?_; rintro e w' ⟨rfl, rfl⟩)
    go_ret
    exact ⟨by rw [HB.out]; rfl, rfl⟩

set_option maxHeartbeats 800000 in
theorem uscale_even (x hi lo H M M2 L2 s : Nat) (b : Nat) (hs : s = 5 ∨ s = 6 ∨ s = 7 ∨ s = 8) (hx : x < 18446744073709551616) (hhi : hi < 18446744073709551616) (hlo : lo < 18446744073709551616) (hH : H < 18446744073709551616) (e : x * hi = H * 18446744073709551616 + M) (hM : M < 18446744073709551616)
    (e2 : x * lo = M2 * 18446744073709551616 + L2) (hL : L2 < 18446744073709551616) (hle : M2 ≤ M) (w : World)
    (c0 : w.cell? ⟨b, 0, none⟩ = some (.int .u64 hi)) (c1 : w.cell? ⟨b, 1, none⟩ = some (.int .u64 lo)) (c2 : w.cell? ⟨b, 2, none⟩ = some (.int .i64 s)) (hr : H % 2 ^ s = 0) :
    Calls Tryz.prog 105 #[.int .u64 x, .pointer (some ⟨b, 0, none⟩)] w fun e w' => e = .returned (.int .u64 (usN H (M - M2) s : Nat)) ∧ ∃ n, w' = w.drewN n := by
  have HM := mul64_at x hi H M hx hhi e hM
  have HL := mul64_at x lo M2 L2 hx hlo e2 hL
  clear e e2
  have K1 := Lib.hid HM
  have K2 := Lib.hid HL
  clear HM HL
  rcases hs with rfl | rfl | rfl | rfl
  · have ha : bits BinOp.and IntKind.i64 5 63 = 5 := by decide +kernel
    have hq : ((H : Int) / 32 * 32 != (H : Int)) = false := by rw [bne_eq_false_iff_eq]; omega
    have hlt : decide ((M : Int) < (M2 : Int)) = false := by simp; omega
    have hw : IntKind.u64.wrap ((M : Int) - (M2 : Int)) = (M : Int) - (M2 : Int) := IntWalk.u64_in _ (by omega)
    have he : ((H / 32 : Nat) : Int) = (H : Int) / 32 := by omega
    have hb0 := bits_or_zero (H / 32) (by omega)
    have hb1 := bits_or_one (H / 32) (by omega)
    rw [he] at hb0 hb1
    by_cases hd : M - M2 ≤ 1
    · have hgt : decide ((M : Int) - (M2 : Int) > 1) = false := by simp; omega
      have hgt2 : decide ((1 : Int) < (M : Int) - (M2 : Int)) = false := by simp; omega
      have hfin : usN H (M - M2) 5 = H / 32 := by unfold usN; rw [if_pos ⟨hr, hd⟩]
      have HF := Lib.hid hfin
      have HE := Lib.hid he
      have HB := Lib.hid hb0
      have HW := Lib.hid hw
      clear hr hb0 hb1 he hd hfin hw
      go_enter Tryz.func105, Tryz.ntmps105
      go_wp2_with fail
      refine (K1.out _).mono ?_
      rintro e w' ⟨rfl, rfl⟩
      go_wp2_with fail
      refine (K2.out _).mono ?_
      rintro e w' ⟨rfl, rfl⟩
      go_wp2_with (go_at_call 95; refine (boolU_any _ _).mono ?_; rintro e w' ⟨rfl, rfl⟩)
      have hw := HW.out
      go_quiet ((go_at_call 95; exact quiet_left (boolU_any _ _)))
      go_wp2
      go_ret
      refine ⟨?_, _, rfl⟩
      rw [HF.out, HE.out]
      exact ret_int HB.out
    · have hgt : decide ((M : Int) - (M2 : Int) > 1) = true := by simp; omega
      have hgt2 : decide ((1 : Int) < (M : Int) - (M2 : Int)) = true := by simp; omega
      have hfin : usN H (M - M2) 5 = orOne (H / 32) := by unfold usN; rw [if_neg (fun h => hd h.2)]
      have HF := Lib.hid hfin
      have HB := Lib.hid hb1
      have HW := Lib.hid hw
      clear hr hb0 hb1 he hd hfin hw
      go_enter Tryz.func105, Tryz.ntmps105
      go_wp2_with fail
      refine (K1.out _).mono ?_
      rintro e w' ⟨rfl, rfl⟩
      go_wp2_with fail
      refine (K2.out _).mono ?_
      rintro e w' ⟨rfl, rfl⟩
      go_wp2_with (go_at_call 95; refine (boolU_any _ _).mono ?_; rintro e w' ⟨rfl, rfl⟩)
      have hw := HW.out
      go_quiet ((go_at_call 95; exact quiet_left (boolU_any _ _)))
      go_wp2
      go_ret
      refine ⟨?_, _, rfl⟩
      rw [HF.out]
      exact ret_int HB.out
  · have ha : bits BinOp.and IntKind.i64 6 63 = 6 := by decide +kernel
    have hq : ((H : Int) / 64 * 64 != (H : Int)) = false := by rw [bne_eq_false_iff_eq]; omega
    have hlt : decide ((M : Int) < (M2 : Int)) = false := by simp; omega
    have hw : IntKind.u64.wrap ((M : Int) - (M2 : Int)) = (M : Int) - (M2 : Int) := IntWalk.u64_in _ (by omega)
    have he : ((H / 64 : Nat) : Int) = (H : Int) / 64 := by omega
    have hb0 := bits_or_zero (H / 64) (by omega)
    have hb1 := bits_or_one (H / 64) (by omega)
    rw [he] at hb0 hb1
    by_cases hd : M - M2 ≤ 1
    · have hgt : decide ((M : Int) - (M2 : Int) > 1) = false := by simp; omega
      have hgt2 : decide ((1 : Int) < (M : Int) - (M2 : Int)) = false := by simp; omega
      have hfin : usN H (M - M2) 6 = H / 64 := by unfold usN; rw [if_pos ⟨hr, hd⟩]
      have HF := Lib.hid hfin
      have HE := Lib.hid he
      have HB := Lib.hid hb0
      have HW := Lib.hid hw
      clear hr hb0 hb1 he hd hfin hw
      go_enter Tryz.func105, Tryz.ntmps105
      go_wp2_with fail
      refine (K1.out _).mono ?_
      rintro e w' ⟨rfl, rfl⟩
      go_wp2_with fail
      refine (K2.out _).mono ?_
      rintro e w' ⟨rfl, rfl⟩
      go_wp2_with (go_at_call 95; refine (boolU_any _ _).mono ?_; rintro e w' ⟨rfl, rfl⟩)
      have hw := HW.out
      go_quiet ((go_at_call 95; exact quiet_left (boolU_any _ _)))
      go_wp2
      go_ret
      refine ⟨?_, _, rfl⟩
      rw [HF.out, HE.out]
      exact ret_int HB.out
    · have hgt : decide ((M : Int) - (M2 : Int) > 1) = true := by simp; omega
      have hgt2 : decide ((1 : Int) < (M : Int) - (M2 : Int)) = true := by simp; omega
      have hfin : usN H (M - M2) 6 = orOne (H / 64) := by unfold usN; rw [if_neg (fun h => hd h.2)]
      have HF := Lib.hid hfin
      have HB := Lib.hid hb1
      have HW := Lib.hid hw
      clear hr hb0 hb1 he hd hfin hw
      go_enter Tryz.func105, Tryz.ntmps105
      go_wp2_with fail
      refine (K1.out _).mono ?_
      rintro e w' ⟨rfl, rfl⟩
      go_wp2_with fail
      refine (K2.out _).mono ?_
      rintro e w' ⟨rfl, rfl⟩
      go_wp2_with (go_at_call 95; refine (boolU_any _ _).mono ?_; rintro e w' ⟨rfl, rfl⟩)
      have hw := HW.out
      go_quiet ((go_at_call 95; exact quiet_left (boolU_any _ _)))
      go_wp2
      go_ret
      refine ⟨?_, _, rfl⟩
      rw [HF.out]
      exact ret_int HB.out
  · have ha : bits BinOp.and IntKind.i64 7 63 = 7 := by decide +kernel
    have hq : ((H : Int) / 128 * 128 != (H : Int)) = false := by rw [bne_eq_false_iff_eq]; omega
    have hlt : decide ((M : Int) < (M2 : Int)) = false := by simp; omega
    have hw : IntKind.u64.wrap ((M : Int) - (M2 : Int)) = (M : Int) - (M2 : Int) := IntWalk.u64_in _ (by omega)
    have he : ((H / 128 : Nat) : Int) = (H : Int) / 128 := by omega
    have hb0 := bits_or_zero (H / 128) (by omega)
    have hb1 := bits_or_one (H / 128) (by omega)
    rw [he] at hb0 hb1
    by_cases hd : M - M2 ≤ 1
    · have hgt : decide ((M : Int) - (M2 : Int) > 1) = false := by simp; omega
      have hgt2 : decide ((1 : Int) < (M : Int) - (M2 : Int)) = false := by simp; omega
      have hfin : usN H (M - M2) 7 = H / 128 := by unfold usN; rw [if_pos ⟨hr, hd⟩]
      have HF := Lib.hid hfin
      have HE := Lib.hid he
      have HB := Lib.hid hb0
      have HW := Lib.hid hw
      clear hr hb0 hb1 he hd hfin hw
      go_enter Tryz.func105, Tryz.ntmps105
      go_wp2_with fail
      refine (K1.out _).mono ?_
      rintro e w' ⟨rfl, rfl⟩
      go_wp2_with fail
      refine (K2.out _).mono ?_
      rintro e w' ⟨rfl, rfl⟩
      go_wp2_with (go_at_call 95; refine (boolU_any _ _).mono ?_; rintro e w' ⟨rfl, rfl⟩)
      have hw := HW.out
      go_quiet ((go_at_call 95; exact quiet_left (boolU_any _ _)))
      go_wp2
      go_ret
      refine ⟨?_, _, rfl⟩
      rw [HF.out, HE.out]
      exact ret_int HB.out
    · have hgt : decide ((M : Int) - (M2 : Int) > 1) = true := by simp; omega
      have hgt2 : decide ((1 : Int) < (M : Int) - (M2 : Int)) = true := by simp; omega
      have hfin : usN H (M - M2) 7 = orOne (H / 128) := by unfold usN; rw [if_neg (fun h => hd h.2)]
      have HF := Lib.hid hfin
      have HB := Lib.hid hb1
      have HW := Lib.hid hw
      clear hr hb0 hb1 he hd hfin hw
      go_enter Tryz.func105, Tryz.ntmps105
      go_wp2_with fail
      refine (K1.out _).mono ?_
      rintro e w' ⟨rfl, rfl⟩
      go_wp2_with fail
      refine (K2.out _).mono ?_
      rintro e w' ⟨rfl, rfl⟩
      go_wp2_with (go_at_call 95; refine (boolU_any _ _).mono ?_; rintro e w' ⟨rfl, rfl⟩)
      have hw := HW.out
      go_quiet ((go_at_call 95; exact quiet_left (boolU_any _ _)))
      go_wp2
      go_ret
      refine ⟨?_, _, rfl⟩
      rw [HF.out]
      exact ret_int HB.out
  · have ha : bits BinOp.and IntKind.i64 8 63 = 8 := by decide +kernel
    have hq : ((H : Int) / 256 * 256 != (H : Int)) = false := by rw [bne_eq_false_iff_eq]; omega
    have hlt : decide ((M : Int) < (M2 : Int)) = false := by simp; omega
    have hw : IntKind.u64.wrap ((M : Int) - (M2 : Int)) = (M : Int) - (M2 : Int) := IntWalk.u64_in _ (by omega)
    have he : ((H / 256 : Nat) : Int) = (H : Int) / 256 := by omega
    have hb0 := bits_or_zero (H / 256) (by omega)
    have hb1 := bits_or_one (H / 256) (by omega)
    rw [he] at hb0 hb1
    by_cases hd : M - M2 ≤ 1
    · have hgt : decide ((M : Int) - (M2 : Int) > 1) = false := by simp; omega
      have hgt2 : decide ((1 : Int) < (M : Int) - (M2 : Int)) = false := by simp; omega
      have hfin : usN H (M - M2) 8 = H / 256 := by unfold usN; rw [if_pos ⟨hr, hd⟩]
      have HF := Lib.hid hfin
      have HE := Lib.hid he
      have HB := Lib.hid hb0
      have HW := Lib.hid hw
      clear hr hb0 hb1 he hd hfin hw
      go_enter Tryz.func105, Tryz.ntmps105
      go_wp2_with fail
      refine (K1.out _).mono ?_
      rintro e w' ⟨rfl, rfl⟩
      go_wp2_with fail
      refine (K2.out _).mono ?_
      rintro e w' ⟨rfl, rfl⟩
      go_wp2_with (go_at_call 95; refine (boolU_any _ _).mono ?_; rintro e w' ⟨rfl, rfl⟩)
      have hw := HW.out
      go_quiet ((go_at_call 95; exact quiet_left (boolU_any _ _)))
      go_wp2
      go_ret
      refine ⟨?_, _, rfl⟩
      rw [HF.out, HE.out]
      exact ret_int HB.out
    · have hgt : decide ((M : Int) - (M2 : Int) > 1) = true := by simp; omega
      have hgt2 : decide ((1 : Int) < (M : Int) - (M2 : Int)) = true := by simp; omega
      have hfin : usN H (M - M2) 8 = orOne (H / 256) := by unfold usN; rw [if_neg (fun h => hd h.2)]
      have HF := Lib.hid hfin
      have HB := Lib.hid hb1
      have HW := Lib.hid hw
      clear hr hb0 hb1 he hd hfin hw
      go_enter Tryz.func105, Tryz.ntmps105
      go_wp2_with fail
      refine (K1.out _).mono ?_
      rintro e w' ⟨rfl, rfl⟩
      go_wp2_with fail
      refine (K2.out _).mono ?_
      rintro e w' ⟨rfl, rfl⟩
      go_wp2_with (go_at_call 95; refine (boolU_any _ _).mono ?_; rintro e w' ⟨rfl, rfl⟩)
      have hw := HW.out
      go_quiet ((go_at_call 95; exact quiet_left (boolU_any _ _)))
      go_wp2
      go_ret
      refine ⟨?_, _, rfl⟩
      rw [HF.out]
      exact ret_int HB.out
end Go.Proofs.YtlnkieokhefkfaaGreatDoor
