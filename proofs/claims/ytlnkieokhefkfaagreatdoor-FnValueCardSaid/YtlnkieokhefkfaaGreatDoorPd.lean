/-
  internal/strconv.atof64exact, walked.
-/
import Derived.Test.YtlnkieokhefkfaaGreatDoorPc
namespace Go.Proofs.YtlnkieokhefkfaaGreatDoor
open Go.RowKit Go.Lib

set_option maxRecDepth 100000 in
set_option maxHeartbeats 2000000 in
theorem exact_int (D : Nat) (h : D < 4503599627370496) (w : World) (hi : w.cell? ⟨8, 0, none⟩ = some (.int .u64 52)) :
    Calls Tryz.prog 97 #[.int .u64 D, .int .i64 0, .bool false] w fun e w' => e = .returned (.tuple #[.float .f64 (floatOfInt .f64 D), .bool true]) ∧ w = w' := by
  go_enter Tryz.func97, Tryz.ntmps97
  go_wp2_with fail
  go_ret2
  exact ⟨rfl, rfl⟩
theorem run_neg_float (b : Nat) (W : World) : (Op.unary .neg (.float .f64 b)).run Tryz.prog W = .ok (.float .f64 (Op.negFloat .f64 b)) W := rfl
set_option maxRecDepth 100000 in
set_option maxHeartbeats 2000000 in
theorem exact_int_neg (D y : Nat) (h : D < 4503599627370496) (hy : Op.negFloat .f64 (floatOfInt .f64 D) = y) (w : World) (hi : w.cell? ⟨8, 0, none⟩ = some (.int .u64 52)) :
    Calls Tryz.prog 97 #[.int .u64 D, .int .i64 0, .bool true] w fun e w' => e = .returned (.tuple #[.float .f64 y, .bool true]) ∧ w = w' := by
  have hn := run_neg_float (floatOfInt .f64 D)
  rw [hy] at hn
  clear hy
  go_enter Tryz.func97, Tryz.ntmps97
  go_wp2_with fail
  go_ret2
  exact ⟨rfl, rfl⟩
set_option maxRecDepth 100000 in
set_option maxHeartbeats 2000000 in
theorem exact_frac (D : Nat) (k : Nat) (p res R o : Nat) (h : D < 4503599627370496) (hk0 : 0 < k) (hk3 : k ≤ 3) (w : World) (hi : w.cell? ⟨8, 0, none⟩ = some (.int .u64 52)) (ht : w.cell? ⟨18, 0, none⟩ = some (.slice (some ⟨R, o, none⟩) 23 23)) (hp : w.cell? ⟨R, o + k, none⟩ = some (.float .f64 p)) (hq : floatBits .quo .f64 (floatOfInt .f64 D) p = some res) :
    Calls Tryz.prog 97 #[.int .u64 D, .int .i64 (-(k : Int)), .bool false] w fun e w' => e = .returned (.tuple #[.float .f64 res, .bool true]) ∧ w = w' := by
  have hd := fun W : World => run_float_arith (P := Tryz.prog) W .quo 22 .f64 _ _ res hq
  have hk4 : ((-(k : Int)) == 0) = false := by simp; omega
  clear hq
  go_enter Tryz.func97, Tryz.ntmps97
  go_wp2_with fail
  go_ret2
  exact ⟨rfl, rfl⟩
set_option maxRecDepth 100000 in
set_option maxHeartbeats 2000000 in
theorem exact_frac_neg (D y : Nat) (k : Nat) (p res R o : Nat) (h : D < 4503599627370496) (hy : Op.negFloat .f64 (floatOfInt .f64 D) = y) (hk0 : 0 < k) (hk3 : k ≤ 3) (w : World) (hi : w.cell? ⟨8, 0, none⟩ = some (.int .u64 52)) (ht : w.cell? ⟨18, 0, none⟩ = some (.slice (some ⟨R, o, none⟩) 23 23)) (hp : w.cell? ⟨R, o + k, none⟩ = some (.float .f64 p)) (hq : floatBits .quo .f64 y p = some res) :
    Calls Tryz.prog 97 #[.int .u64 D, .int .i64 (-(k : Int)), .bool true] w fun e w' => e = .returned (.tuple #[.float .f64 res, .bool true]) ∧ w = w' := by
  have hd := fun W : World => run_float_arith (P := Tryz.prog) W .quo 22 .f64 _ _ res hq
  have hn := run_neg_float (floatOfInt .f64 D)
  rw [hy] at hn
  have hk4 : ((-(k : Int)) == 0) = false := by simp; omega
  clear hq hy
  go_enter Tryz.func97, Tryz.ntmps97
  go_wp2_with fail
  go_ret2
  exact ⟨rfl, rfl⟩
/-- Too many digits: no. -/
theorem exact_not (D : Nat) (p : Int) (neg : Bool) (h : 4503599627370496 ≤ D) (h2 : D < 18446744073709551616) (w : World) (hi : w.cell? ⟨8, 0, none⟩ = some (.int .u64 52)) :
    Calls Tryz.prog 97 #[.int .u64 D, .int .i64 p, .bool neg] w fun e w' => e = .returned (.tuple #[.float .f64 0, .bool false]) ∧ w = w' := by
  go_enter Tryz.func97, Tryz.ntmps97
  go_wp2_with fail
  go_ret2
  exact ⟨rfl, rfl⟩
end Go.Proofs.YtlnkieokhefkfaaGreatDoor
