/-
  The small functions of internal/strconv's uscale.go, walked: each contract says the result and that the world is as it was.
-/
import Derived.Test.YtlnkieokhefkfaaGreatDoorBs
namespace Go.Proofs.YtlnkieokhefkfaaGreatDoor
open Go.RowKit

set_option maxHeartbeats 400000 in
theorem log2Pow10_any (x : Int) (h0 : -400 ≤ x) (h1 : x ≤ 400) (w : World) :
    Calls Tryz.prog 104 #[.int .i64 x] w fun e w' => e = .returned (.int .i64 (x * 108853 / 32768)) ∧ w = w' := by
  go_enter Tryz.func104, Tryz.ntmps104
  go_wp2
  go_ret
  exact ⟨rfl, rfl⟩

set_option maxHeartbeats 400000 in
theorem log10Pow2_any (x : Int) (h0 : -400 ≤ x) (h1 : x ≤ 400) (w : World) :
    Calls Tryz.prog 46 #[.int .i64 x] w fun e w' => e = .returned (.int .i64 (x * 78913 / 262144)) ∧ w = w' := by
  go_enter Tryz.func46, Tryz.ntmps46
  go_wp2
  go_ret
  exact ⟨rfl, rfl⟩

set_option maxHeartbeats 400000 in
theorem skewed_any (x : Int) (h0 : -400 ≤ x) (h1 : x ≤ 400) (w : World) :
    Calls Tryz.prog 102 #[.int .i64 x] w fun e w' => e = .returned (.int .i64 ((x * 631305 - 261663) / 2097152)) ∧ w = w' := by
  go_enter Tryz.func102, Tryz.ntmps102
  go_wp2
  go_ret
  exact ⟨rfl, rfl⟩
end Go.Proofs.YtlnkieokhefkfaaGreatDoor
