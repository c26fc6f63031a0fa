/-
  internal/strconv.atof64 and what stands over it, walked.
-/
import Derived.Test.YtlnkieokhefkfaaGreatDoorPf
namespace Go.Proofs.YtlnkieokhefkfaaGreatDoor
open Go.RowKit Go.Lib

set_option maxRecDepth 100000 in
set_option maxHeartbeats 2000000 in
theorem atof_zero (s : ByteArray) (n : Nat) (w : World) (h86 : Calls Tryz.prog 86 #[.string s] w fun e w' => e = .returned (.tuple #[.float .f64 0, .int .i64 0, .bool false]) ∧ w = w')
    (h87 : Calls Tryz.prog 87 #[.string s] w fun e w' => e = .returned (.tuple #[.int .u64 (0 : Nat), .int .i64 0, .bool false, .bool false, .bool false, .int .i64 n, .bool true]) ∧ w = w')
    (ho : w.cell? ⟨4, 0, none⟩ = some (.bool true)) :
    Calls Tryz.prog 66 #[.string s] w fun e w' => e = .returned (.tuple #[.float .f64 (0 : Nat), .int .i64 n, .nilIface]) ∧ Below w.heap.size w w' := by
  have K86 := Lib.hid h86
  have K87 := Lib.hid h87
  have hfb : ∀ W : World, (callFunc 96 #[.int .u64 0]).run Tryz.prog W = .ok (.value (.float .f64 0)) W := float64frombits_run 0
  have hz : bits .or .u64 0 0 = 0 := by decide
  clear h86 h87
  go_enter Tryz.func66, Tryz.ntmps66
  go_wp2_with (first | (go_at_call 86; refine K86.out.mono ?_; rintro e w' ⟨rfl, rfl⟩) | (go_at_call 87; refine K87.out.mono ?_; rintro e w' ⟨rfl, rfl⟩) | (go_at_call 95; refine (boolU_any _ _).mono ?_; rintro e w' ⟨rfl, rfl⟩))
  all_goals
    (try simp only [Exit.inBlock, Exit.then])
    first | exact bodyPost_ret (results_tmp3 rfl _ _ _) rfl ⟨rfl, Below.refl _ _⟩ | exact bodyPost_ret (results_tmp3 rfl _ _ _) rfl ⟨rfl, hb⟩
set_option maxRecDepth 100000 in
set_option maxHeartbeats 2000000 in
theorem atof_exact (s : ByteArray) (n D r res : Nat) (neg : Bool) (hD0 : 0 < D) (hr : r ≤ 3) (w : World) (h86 : Calls Tryz.prog 86 #[.string s] w fun e w' => e = .returned (.tuple #[.float .f64 0, .int .i64 0, .bool false]) ∧ w = w')
    (h87 : Calls Tryz.prog 87 #[.string s] w fun e w' => e = .returned (.tuple #[.int .u64 D, .int .i64 (-(r : Int)), .bool neg, .bool false, .bool false, .int .i64 n, .bool true]) ∧ w = w')
    (h97 : Calls Tryz.prog 97 #[.int .u64 D, .int .i64 (-(r : Int)), .bool neg] w fun e w' => e = .returned (.tuple #[.float .f64 res, .bool true]) ∧ w = w')
    (ho : w.cell? ⟨4, 0, none⟩ = some (.bool true)) :
    Calls Tryz.prog 66 #[.string s] w fun e w' => e = .returned (.tuple #[.float .f64 res, .int .i64 n, .nilIface]) ∧ Below w.heap.size w w' := by
  have K86 := Lib.hid h86
  have K87 := Lib.hid h87
  have K97 := Lib.hid h97
  have hz : ((D : Int) == 0) = false := by simp; omega
  clear h86 h87 h97
  go_enter Tryz.func66, Tryz.ntmps66
  go_wp2_with (first | (go_at_call 86; refine K86.out.mono ?_; rintro e w' ⟨rfl, rfl⟩) | (go_at_call 87; refine K87.out.mono ?_; rintro e w' ⟨rfl, rfl⟩) | (go_at_call 95; refine (boolU_any _ _).mono ?_; rintro e w' ⟨rfl, rfl⟩) | (go_at_call 97; refine K97.out.mono ?_; rintro e w' ⟨rfl, rfl⟩))
  all_goals
    (try simp only [Exit.inBlock, Exit.then])
    first | exact bodyPost_ret (results_tmp3 rfl _ _ _) rfl ⟨rfl, Below.refl _ _⟩ | exact bodyPost_ret (results_tmp3 rfl _ _ _) rfl ⟨rfl, hb⟩
set_option maxRecDepth 100000 in
set_option maxHeartbeats 2000000 in
theorem atof_big (s : ByteArray) (n D r res : Nat) (neg : Bool) (hD0 : 0 < D) (hr : r ≤ 3) (w : World) (h86 : Calls Tryz.prog 86 #[.string s] w fun e w' => e = .returned (.tuple #[.float .f64 0, .int .i64 0, .bool false]) ∧ w = w')
    (h87 : Calls Tryz.prog 87 #[.string s] w fun e w' => e = .returned (.tuple #[.int .u64 D, .int .i64 (-(r : Int)), .bool neg, .bool false, .bool false, .int .i64 n, .bool true]) ∧ w = w')
    (h97 : Calls Tryz.prog 97 #[.int .u64 D, .int .i64 (-(r : Int)), .bool neg] w fun e w' => e = .returned (.tuple #[.float .f64 0, .bool false]) ∧ w = w')
    (h98 : Calls Tryz.prog 98 #[.int .u64 D, .int .i64 (-(r : Int)), .int .u64 ((if neg then 9223372036854775808 else 0 : Nat) : Int)] w fun e' w' => e' = .returned (.tuple #[.float .f64 res, .nilIface]) ∧ Below w.heap.size w w')
    (ho : w.cell? ⟨4, 0, none⟩ = some (.bool true)) :
    Calls Tryz.prog 66 #[.string s] w fun e w' => e = .returned (.tuple #[.float .f64 res, .int .i64 n, .nilIface]) ∧ Below w.heap.size w w' := by
  have K86 := Lib.hid h86
  have K87 := Lib.hid h87
  have K97 := Lib.hid h97
  have K98 := Lib.hid h98
  have hz : ((D : Int) == 0) = false := by simp; omega
  clear h86 h87 h97 h98
  cases neg
  all_goals
    go_enter Tryz.func66, Tryz.ntmps66
    go_wp2_with (first | (go_at_call 86; refine K86.out.mono ?_; rintro e w' ⟨rfl, rfl⟩) | (go_at_call 87; refine K87.out.mono ?_; rintro e w' ⟨rfl, rfl⟩) | (go_at_call 95; refine (boolU_any _ _).mono ?_; rintro e w' ⟨rfl, rfl⟩) | (go_at_call 97; refine K97.out.mono ?_; rintro e w' ⟨rfl, rfl⟩) | (go_at_call 98; refine K98.out.mono ?_; rintro e w' ⟨rfl, hb⟩))
  all_goals
    (try simp only [Exit.inBlock, Exit.then])
    first | exact bodyPost_ret (results_tmp3 rfl _ _ _) rfl ⟨rfl, Below.refl _ _⟩ | exact bodyPost_ret (results_tmp3 rfl _ _ _) rfl ⟨rfl, hb⟩

set_option maxRecDepth 100000 in
theorem prefix_of (s : ByteArray) (n res : Nat) (w : World) (h : Calls Tryz.prog 66 #[.string s] w fun e w' => e = .returned (.tuple #[.float .f64 res, .int .i64 n, .nilIface]) ∧ Below w.heap.size w w') :
    Calls Tryz.prog 52 #[.string s, .int .i64 64] w fun e w' => e = .returned (.tuple #[.float .f64 res, .int .i64 n, .nilIface]) ∧ Below w.heap.size w w' := by
  have K := Lib.hid h
  clear h
  go_enter Tryz.func52, Tryz.ntmps52
  go_wp2_with (go_at_call 66; refine K.out.mono ?_; rintro e w' ⟨rfl, hb⟩)
  (try simp only [Exit.inBlock, Exit.then])
  exact bodyPost_ret (results_tmp3 rfl _ _ _) rfl ⟨rfl, hb⟩
set_option maxRecDepth 100000 in
theorem iparse_of (s : ByteArray) (res : Nat) (w : World) (h : Calls Tryz.prog 52 #[.string s, .int .i64 64] w fun e w' => e = .returned (.tuple #[.float .f64 res, .int .i64 (s.size : Nat), .nilIface]) ∧ Below w.heap.size w w') :
    Calls Tryz.prog 42 #[.string s, .int .i64 64] w fun e w' => e = .returned (.tuple #[.float .f64 res, .nilIface]) ∧ Below w.heap.size w w' := by
  have K := Lib.hid h
  clear h
  go_enter Tryz.func42, Tryz.ntmps42
  go_wp2_with (go_at_call 52; refine K.out.mono ?_; rintro e w' ⟨rfl, hb⟩)
  go_ret2
  exact ⟨rfl, hb⟩
set_option maxRecDepth 100000 in
theorem sparse_of (s : ByteArray) (res : Nat) (w : World) (h : Calls Tryz.prog 42 #[.string s, .int .i64 64] w fun e w' => e = .returned (.tuple #[.float .f64 res, .nilIface]) ∧ Below w.heap.size w w') :
    Calls Tryz.prog 29 #[.string s, .int .i64 64] w fun e w' => e = .returned (.tuple #[.float .f64 res, .nilIface]) ∧ Below w.heap.size w w' := by
  have K := Lib.hid h
  clear h
  go_enter Tryz.func29, Tryz.ntmps29
  go_wp2_with (go_at_call 42; refine K.out.mono ?_; rintro e w' ⟨rfl, hb⟩)
  go_ret2
  exact ⟨rfl, hb⟩
end Go.Proofs.YtlnkieokhefkfaaGreatDoor
