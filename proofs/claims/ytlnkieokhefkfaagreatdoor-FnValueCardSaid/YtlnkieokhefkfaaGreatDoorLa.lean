/-
  FnValue's law, walked.
-/
import Derived.Test.YtlnkieokhefkfaaGreatDoorEj
namespace Go.Proofs.YtlnkieokhefkfaaGreatDoor
open Go.RowKit Go.Lib

theorem lawsBits (b : Nat) (w : World) : Calls Tryz.prog 8 #[.float .f64 b] w fun e w' => e = .returned (.int .u64 b) ∧ w' = w := by
  have hb := Float64bits_run b
  go_enter Tryz.func8, Tryz.ntmps8
  go_wp2_with fail
  go_ret
  exact ⟨rfl, rfl⟩

set_option maxRecDepth 100000 in
theorem lawOut (n m : Int) (x y : Nat) (bn bm : Bool) (hb : (bn && bm) = false) (w : World)
    (k4n : ∀ W, Below w.heap.size w W → Calls Tryz.prog 4 #[.int .i64 n] W fun e w' => e = .returned (.tuple #[.float .f64 x, .bool bn]) ∧ Below w.heap.size w w')
    (k4m : ∀ W, Below w.heap.size w W → Calls Tryz.prog 4 #[.int .i64 m] W fun e w' => e = .returned (.tuple #[.float .f64 y, .bool bm]) ∧ Below w.heap.size w w')
    (k5 : ∀ W, Below w.heap.size w W → Calls Tryz.prog 5 #[] W fun e w' => e = .returned (.bool true) ∧ Below w.heap.size w w') :
    Calls Tryz.prog 3 #[.int .i64 n, .int .i64 m] w fun e w' => e = .returned (.bool true) ∧ Below w.heap.size w w' := by
  have K4 := Lib.hid k4n
  have M4 := Lib.hid k4m
  have K5 := Lib.hid k5
  clear k4n k4m k5
  go_enter Tryz.func3, Tryz.ntmps3
  go_wp2_with fail
  refine (K4.out _ (Below.refl _ _)).mono ?_
  rintro e w1 ⟨rfl, h1⟩
  go_wp2_with fail
  go_at_call 4
  refine (M4.out _ h1).mono ?_
  rintro e w2 ⟨rfl, h2⟩
  cases bn <;> cases bm <;> first | (simp at hb; done) | skip
  all_goals
    go_wp2_with (go_at_call 5; refine (K5.out _ h2).mono ?_; rintro e w3 ⟨rfl, h3⟩)
  all_goals
    go_ret
    exact ⟨rfl, h3⟩
set_option maxRecDepth 100000 in
theorem lawIn (n m : Int) (x y : Nat) (sS sJ : ByteArray) (w : World) (hl1 : sS.size ≤ 1000) (hJ : ⟨#[34]⟩ ++ sS ++ ⟨#[34]⟩ = sJ)
    (k4n : ∀ W, Below w.heap.size w W → Calls Tryz.prog 4 #[.int .i64 n] W fun e w' => e = .returned (.tuple #[.float .f64 x, .bool true]) ∧ Below w.heap.size w w')
    (k4m : ∀ W, Below w.heap.size w W → Calls Tryz.prog 4 #[.int .i64 m] W fun e w' => e = .returned (.tuple #[.float .f64 y, .bool true]) ∧ Below w.heap.size w w')
    (k5 : ∀ W, Below w.heap.size w W → Calls Tryz.prog 5 #[] W fun e w' => e = .returned (.bool true) ∧ Below w.heap.size w w')
    (k6 : ∀ W, Below w.heap.size w W → Calls Tryz.prog 6 #[.int .i64 n] W fun e w' => e = .returned (.string sS) ∧ Below w.heap.size w w')
    (k7 : ∀ W, Below w.heap.size w W → Calls Tryz.prog 7 #[.int .u64 x] W fun e w' => e = .returned (.tuple #[.string sJ, .bool true]) ∧ Below w.heap.size w w')
    (k9 : ∀ W, Below w.heap.size w W → Calls Tryz.prog 9 #[.string sJ] W fun e w' => e = .returned (.tuple #[.int .u64 x, .bool true]) ∧ Below w.heap.size w w')
    (k10 : ∀ W, Below w.heap.size w W → Calls Tryz.prog 10 #[.int .u64 x] W fun e w' => e = .returned (.string sS) ∧ Below w.heap.size w w')
    (k10n : ∀ W, Below w.heap.size w W → Calls Tryz.prog 10 #[.int .u64 (9221120237041090561 : Nat)] W fun e w' => e = .returned (.string ⟨#[78, 97, 78]⟩) ∧ Below w.heap.size w w')
    (k11 : ∀ W, Below w.heap.size w W → Calls Tryz.prog 11 #[.int .u64 x, .int .u64 y] W fun e w' => e = .returned (.bool (n == m)) ∧ Below w.heap.size w w')
    (k11n : ∀ W, Below w.heap.size w W → Calls Tryz.prog 11 #[.int .u64 (9221120237041090561 : Nat), .int .u64 (9221120237041090561 : Nat)] W fun e w' => e = .returned (.bool true) ∧ Below w.heap.size w w')
    (k11x : ∀ W, Below w.heap.size w W → Calls Tryz.prog 11 #[.int .u64 (9221120237041090561 : Nat), .int .u64 x] W fun e w' => e = .returned (.bool false) ∧ Below w.heap.size w w') :
    Calls Tryz.prog 3 #[.int .i64 n, .int .i64 m] w fun e w' => e = .returned (.bool true) ∧ Below w.heap.size w w' := by
  have K4 := Lib.hid k4n
  have M4 := Lib.hid k4m
  have K5 := Lib.hid k5
  have K6 := Lib.hid k6
  have K7 := Lib.hid k7
  have K9 := Lib.hid k9
  have K10 := Lib.hid k10
  have N10 := Lib.hid k10n
  have K11 := Lib.hid k11
  have N11 := Lib.hid k11n
  have X11 := Lib.hid k11x
  clear k4n k4m k5 k6 k7 k9 k10 k10n k11 k11n k11x
  obtain ⟨sQ, hQ⟩ : ∃ sQ, (⟨#[34]⟩ ++ sS : ByteArray) = sQ := ⟨_, rfl⟩
  have hz : (⟨#[34]⟩ : ByteArray).size = 1 := rfl
  have hs : sQ.size ≤ 1001 := by rw [← hQ, ByteArray.size_append, hz]; omega
  have e1 : ∀ U : World, (Op.stringOp .add ⟨#[34]⟩ sS).run Tryz.prog U = .ok (.string sQ) U := fun U => hQ ▸ run_string_add U _ _ (by decide) (by omega)
  have e2 : ∀ U : World, (Op.stringOp .add sQ ⟨#[34]⟩).run Tryz.prog U = .ok (.string sJ) U := fun U => by
    rw [← hJ, hQ]
    exact run_string_add U _ _ (by omega) (by decide)
  clear hQ hs hz
  clear hJ hl1
  go_enter Tryz.func3, Tryz.ntmps3
  go_wp2_with fail
  refine (K4.out _ (Below.refl _ _)).mono ?_
  rintro e w1 ⟨rfl, h1⟩
  go_wp2_with fail
  go_at_call 4
  refine (M4.out _ h1).mono ?_
  rintro e w2 ⟨rfl, h2⟩
  go_wp2_with fail
  go_at_call 6
  refine (K6.out _ h2).mono ?_
  rintro e w3 ⟨rfl, h3⟩
  go_wp2_with (go_at_call 8; refine (lawsBits x _).mono ?_; rintro e w4 ⟨rfl, rfl⟩)
  go_at_call 7
  refine (K7.out _ (by assumption)).mono ?_
  rintro e w5 ⟨rfl, h5⟩
  go_wp2_with fail
  go_at_call 9
  refine (K9.out _ (by assumption)).mono ?_
  rintro e w6 ⟨rfl, h6⟩
  go_wp2_with fail
  go_at_call 5
  refine (K5.out _ (by assumption)).mono ?_
  rintro e w7 ⟨rfl, h7⟩
  go_wp2_with (go_at_call 8; refine (lawsBits x _).mono ?_; rintro e w4 ⟨rfl, rfl⟩)
  go_at_call 10
  refine (K10.out _ (by assumption)).mono ?_
  rintro e w8 ⟨rfl, h8⟩
  go_wp2_with fail
  go_wp2_with (go_at_call 8; refine (lawsBits _ _).mono ?_; rintro e w4 ⟨rfl, rfl⟩)
  go_at_call 11
  refine (K11.out _ (by assumption)).mono ?_
  rintro e w9 ⟨rfl, h9⟩
  go_wp2_with fail
  go_at_call 11
  refine (N11.out _ (by assumption)).mono ?_
  rintro e w10 ⟨rfl, h10⟩
  go_wp2_with (go_at_call 8; refine (lawsBits _ _).mono ?_; rintro e w4 ⟨rfl, rfl⟩)
  go_at_call 11
  refine (X11.out _ (by assumption)).mono ?_
  rintro e w11 ⟨rfl, h11⟩
  go_wp2_with fail
  go_at_call 10
  refine (N10.out _ (by assumption)).mono ?_
  rintro e w12 ⟨rfl, h12⟩
  go_wp2_with fail
  go_ret
  exact ⟨rfl, h12⟩
end Go.Proofs.YtlnkieokhefkfaaGreatDoor
