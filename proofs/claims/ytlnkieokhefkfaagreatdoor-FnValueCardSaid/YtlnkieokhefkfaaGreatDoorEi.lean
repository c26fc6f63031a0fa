/-
  eighths, and ValueEqual of the bits of eighths, walked.
-/
import Derived.Test.YtlnkieokhefkfaaGreatDoorEh
import Derived.Test.YtlnkieokhefkfaaGreatDoorFl
namespace Go.Proofs.YtlnkieokhefkfaaGreatDoor
open Go.RowKit Go.Lib

theorem quo_in (n : Int) (h : n.natAbs < 562949953421312) : floatBits .quo .f64 (floatOfInt .f64 n) 4620693217682128896 = some (ValMath.eBits n) := by
  show Ieee.double.div (Ieee.double.nearest (decide (n < 0)) n.natAbs 0) 4620693217682128896 = _
  rw [← ValMath.word8]
  unfold ValMath.eBits
  by_cases h0 : n = 0
  · rw [if_pos h0, h0]
    exact ValMath.div8_zero
  · have := ValMath.log2_lt n.natAbs (by omega) h
    rw [if_neg h0, ValMath.of_int _ _ (by omega) (by omega), ValMath.div8_exact _ _ (by omega) (by omega)]
theorem quo_any (n : Int) : ∃ r, floatBits .quo .f64 (floatOfInt .f64 n) 4620693217682128896 = some r := by
  show ∃ r, Ieee.double.div (Ieee.double.nearest (decide (n < 0)) n.natAbs 0) 4620693217682128896 = some r
  rw [← ValMath.word8]
  exact ValMath.div8_some _ _

theorem eighths_at (n : Int) (x : Nat) (hx : floatBits .quo .f64 (floatOfInt .f64 n) 4620693217682128896 = some x) (w : World) :
    Calls Tryz.prog 4 #[.int .i64 n] w fun e w' => e = .returned (.tuple #[.float .f64 x, .bool (decide (n.natAbs < 562949953421312))]) ∧ Below w.heap.size w w' := by
  have hq := fun W : World => run_float_arith (P := Tryz.prog) W .quo 22 .f64 _ _ x hx
  clear hx
  by_cases h0 : -562949953421312 < n
  · by_cases h1 : n < 562949953421312
    · rw [show decide (n.natAbs < 562949953421312) = true by simp; omega]
      go_enter Tryz.func4, Tryz.ntmps4
      go_wp2_with fail
      all_goals (go_ret2; first | exact ⟨rfl, Below.refl _ _⟩ | exact ⟨rfl, below_drewN (Below.refl _ _) _⟩)
    · rw [show decide (n.natAbs < 562949953421312) = false by simp; omega]
      go_enter Tryz.func4, Tryz.ntmps4
      go_wp2_with fail
      all_goals (go_ret2; first | exact ⟨rfl, Below.refl _ _⟩ | exact ⟨rfl, below_drewN (Below.refl _ _) _⟩)
  · rw [show decide (n.natAbs < 562949953421312) = false by simp; omega]
    go_enter Tryz.func4, Tryz.ntmps4
    go_wp2_with fail
    all_goals (go_ret2; first | exact ⟨rfl, Below.refl _ _⟩ | exact ⟨rfl, below_drewN (Below.refl _ _) _⟩)

theorem isNaN_any (b : Nat) (r : Bool) (h : (FloatKind.f64.format.order b b == some Ordering.eq) = !r) (w : World) :
    Calls Tryz.prog 31 #[.float .f64 b] w fun e w' => e = .returned (.bool r) ∧ w' = w := by
  have h2 : (FloatKind.f64.format.order b b != some Ordering.eq) = r := by
    unfold bne
    rw [h]
    cases r <;> rfl
  clear h
  go_enter Tryz.func31, Tryz.ntmps31
  go_wp2_with fail
  go_ret
  exact ⟨rfl, rfl⟩
theorem equal_same (b1 b2 : Nat) (h : (FloatKind.f64.format.order b1 b2 == some Ordering.eq) = true) (w : World) :
    Calls Tryz.prog 20 #[.float .f64 b1, .float .f64 b2] w fun e w' => e = .returned (.bool true) ∧ w' = w := by
  go_enter Tryz.func20, Tryz.ntmps20
  go_wp2_with fail
  go_ret
  exact ⟨rfl, rfl⟩
theorem equal_num (b1 b2 : Nat) (h : (FloatKind.f64.format.order b1 b2 == some Ordering.eq) = false) (h1 : (FloatKind.f64.format.order b1 b1 == some Ordering.eq) = true) (w : World) :
    Calls Tryz.prog 20 #[.float .f64 b1, .float .f64 b2] w fun e w' => e = .returned (.bool false) ∧ w' = w := by
  have K := Lib.hid h1
  clear h1
  go_enter Tryz.func20, Tryz.ntmps20
  go_wp2_with (go_at_call 31; refine (isNaN_any b1 false K.out _).mono ?_; rintro e w' ⟨rfl, rfl⟩)
  go_ret
  exact ⟨rfl, rfl⟩
set_option maxRecDepth 100000 in
theorem equal_nan (b1 b2 : Nat) (r : Bool) (h : (FloatKind.f64.format.order b1 b2 == some Ordering.eq) = false) (h1 : (FloatKind.f64.format.order b1 b1 == some Ordering.eq) = false) (h2 : (FloatKind.f64.format.order b2 b2 == some Ordering.eq) = !r) (w : World) :
    Calls Tryz.prog 20 #[.float .f64 b1, .float .f64 b2] w fun e w' => e = .returned (.bool r) ∧ w' = w := by
  have K1 := Lib.hid (isNaN_any b1 true h1 w)
  have K2 := Lib.hid (isNaN_any b2 r h2 w)
  clear h1 h2
  go_enter Tryz.func20, Tryz.ntmps20
  go_wp2_with (go_at_call 31; refine K1.out.mono ?_; rintro e w' ⟨rfl, rfl⟩)
  go_at_call 31
  refine K2.out.mono ?_
  rintro e w' ⟨rfl, rfl⟩
  go_wp2_with fail
  go_ret
  exact ⟨rfl, rfl⟩
theorem valueEqual_of (b1 b2 : Nat) (r : Bool) (w : World) (h : Calls Tryz.prog 20 #[.float .f64 b1, .float .f64 b2] w fun e w' => e = .returned (.bool r) ∧ w' = w) :
    Calls Tryz.prog 11 #[.int .u64 b1, .int .u64 b2] w fun e w' => e = .returned (.bool r) ∧ w' = w := by
  have K := Lib.hid h
  have hb1 := Float64frombits_run b1
  have hb2 := Float64frombits_run b2
  clear h
  go_enter Tryz.func11, Tryz.ntmps11
  go_wp2_with (go_at_call 20; refine K.out.mono ?_; rintro e w' ⟨rfl, rfl⟩)
  go_ret
  exact ⟨rfl, rfl⟩

theorem order_same (n m : Int) (h0 : n.natAbs < 562949953421312) (h1 : m.natAbs < 562949953421312) : (FloatKind.f64.format.order (ValMath.eBits n) (ValMath.eBits m) == some Ordering.eq) = decide (n = m) := by
  obtain ⟨o, ho, hi⟩ := ValMath.order_eighths n m h0 h1
  show (Ieee.double.order _ _ == _) = _
  rw [ho]
  by_cases h : n = m
  · rw [hi.2 h]; simp [h]
  · have : o ≠ .eq := fun e => h (hi.1 e)
    cases o <;> simp_all
theorem order_nan1 (b : Nat) : (FloatKind.f64.format.order 9221120237041090561 b == some Ordering.eq) = false := by
  have e : Ieee.double.read 9221120237041090561 = .nan false 2251799813685249 := by decide
  show (Ieee.double.order _ _ == _) = _
  unfold Ieee.Format.order
  rw [e]
  unfold Ieee.Datum.order
  rfl
theorem valueEqual_num (n m : Int) (h0 : n.natAbs < 562949953421312) (h1 : m.natAbs < 562949953421312) (w : World) :
    Calls Tryz.prog 11 #[.int .u64 (ValMath.eBits n), .int .u64 (ValMath.eBits m)] w fun e w' => e = .returned (.bool (decide (n = m))) ∧ w' = w := by
  refine valueEqual_of _ _ _ w ?_
  have e := order_same n m h0 h1
  by_cases h : n = m
  · rw [show decide (n = m) = true by simp [h]] at e ⊢
    exact equal_same _ _ e w
  · rw [show decide (n = m) = false by simp [h]] at e ⊢
    have e2 := order_same n n h0 h0
    exact equal_num _ _ e (by rw [e2]; simp) w
theorem valueEqual_nans (w : World) :
    Calls Tryz.prog 11 #[.int .u64 (9221120237041090561 : Nat), .int .u64 (9221120237041090561 : Nat)] w fun e w' => e = .returned (.bool true) ∧ w' = w :=
  valueEqual_of _ _ _ w (equal_nan _ _ true (order_nan1 _) (order_nan1 _) (order_nan1 _) w)
theorem valueEqual_nan_num (n : Int) (h0 : n.natAbs < 562949953421312) (w : World) :
    Calls Tryz.prog 11 #[.int .u64 (9221120237041090561 : Nat), .int .u64 (ValMath.eBits n)] w fun e w' => e = .returned (.bool false) ∧ w' = w :=
  valueEqual_of _ _ _ w (equal_nan _ _ false (order_nan1 _) (order_nan1 _) (by rw [order_same n n h0 h0]; simp) w)

/-- The bits under both their names. -/
theorem eBits_eq (n : Int) : ValMath.eBits n = numBits (decide (n < 0)) n.natAbs := by
  unfold ValMath.eBits numBits
  by_cases h : n = 0
  · rw [if_pos h, if_pos (by omega)]
  · rw [if_neg h, if_neg (by omega)]
    unfold ValMath.wordOf fbits Ieee.Format.word
    have e : (-3 + (n.natAbs.log2 : Int) + 1022).toNat = n.natAbs.log2 + 1019 := by omega
    rw [e, show Ieee.double.signWeight = 9223372036854775808 by decide]
    by_cases hn : n < 0 <;> simp [hn]
end Go.Proofs.YtlnkieokhefkfaaGreatDoor
