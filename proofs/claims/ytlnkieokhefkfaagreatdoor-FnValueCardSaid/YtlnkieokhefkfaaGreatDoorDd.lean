/-
  Duration.String at 1h30m, walked.
-/
import Derived.Test.YtlnkieokhefkfaaGreatDoorDc
namespace Go.Proofs.YtlnkieokhefkfaaGreatDoor
open Go.RowKit Go.Lib

theorem fmt_1 (w : World) : Calls Tryz.prog 14 #[.int .i64 1, .int .i64 10] w fun e w' => e = .returned (.string ⟨#[49]⟩) ∧ w = w' := by
  refine (Tryz.strconv_FormatInt_10_small 1 (by decide) w).mono ?_
  rintro e w' ⟨rfl, rfl⟩
  refine ⟨?_, rfl⟩
  rw [decDigits, dif_pos (by decide)]
  rfl
theorem fmt_30 (w : World) : Calls Tryz.prog 14 #[.int .i64 30, .int .i64 10] w fun e w' => e = .returned (.string ⟨#[51, 48]⟩) ∧ w = w' := by
  refine (Tryz.strconv_FormatInt_10_small 30 (by decide) w).mono ?_
  rintro e w' ⟨rfl, rfl⟩
  refine ⟨?_, rfl⟩
  rw [decDigits, dif_neg (by decide), decDigits, dif_pos (by decide)]
  rfl

theorem two_sets (b : Nat) (W : World) (x y : Value) : Below b W ((W.setCell ⟨b + 1, 0, none⟩ x).setCell ⟨b, 0, none⟩ y) :=
  below_set (p := ⟨b, 0, none⟩) (below_set (p := ⟨b + 1, 0, none⟩) (Below.refl b W) (Nat.le_succ b) x) (Nat.le_refl b) y

set_option maxRecDepth 100000 in
theorem tell_y (b : Nat) (W : World) (b0 : Blk W b 2 #[.int .i64 5400000]) :
    Calls Tryz.prog 36 #[.string ⟨#[121]⟩, .int .i64 31536000000, .bool true, .pointer (some ⟨b, 0, none⟩), .pointer (some ⟨b + 1, 0, none⟩)] W fun e w' => e = .returned (.tuple #[]) ∧ W = w' := by
  have c0 : W.cell? ⟨b, 0, none⟩ = some (.int .i64 5400000) := by rw [b0.cell]; rfl
  clear b0
  go_enter Tryz.func36, Tryz.ntmps36
  go_wp2_with fail
  first | exact bodyPost_ret (results_none rfl _ _ _) rfl ⟨rfl, rfl⟩ | (go_end0; exact ⟨rfl, rfl⟩)
set_option maxRecDepth 100000 in
theorem tell_w (b : Nat) (W : World) (b0 : Blk W b 2 #[.int .i64 5400000]) :
    Calls Tryz.prog 36 #[.string ⟨#[119]⟩, .int .i64 604800000, .bool true, .pointer (some ⟨b, 0, none⟩), .pointer (some ⟨b + 1, 0, none⟩)] W fun e w' => e = .returned (.tuple #[]) ∧ W = w' := by
  have c0 : W.cell? ⟨b, 0, none⟩ = some (.int .i64 5400000) := by rw [b0.cell]; rfl
  clear b0
  go_enter Tryz.func36, Tryz.ntmps36
  go_wp2_with fail
  first | exact bodyPost_ret (results_none rfl _ _ _) rfl ⟨rfl, rfl⟩ | (go_end0; exact ⟨rfl, rfl⟩)
set_option maxRecDepth 100000 in
theorem tell_d (b : Nat) (W : World) (b0 : Blk W b 2 #[.int .i64 5400000]) :
    Calls Tryz.prog 36 #[.string ⟨#[100]⟩, .int .i64 86400000, .bool false, .pointer (some ⟨b, 0, none⟩), .pointer (some ⟨b + 1, 0, none⟩)] W fun e w' => e = .returned (.tuple #[]) ∧ W = w' := by
  have c0 : W.cell? ⟨b, 0, none⟩ = some (.int .i64 5400000) := by rw [b0.cell]; rfl
  clear b0
  go_enter Tryz.func36, Tryz.ntmps36
  go_wp2_with fail
  first | exact bodyPost_ret (results_none rfl _ _ _) rfl ⟨rfl, rfl⟩ | (go_end0; exact ⟨rfl, rfl⟩)
set_option maxRecDepth 100000 in
theorem tell_h (b : Nat) (W : World) (b0 : Blk W b 2 #[.int .i64 5400000]) (b1 : Blk W (b + 1) 9 #[.string ⟨#[]⟩]) :
    Calls Tryz.prog 36 #[.string ⟨#[104]⟩, .int .i64 3600000, .bool false, .pointer (some ⟨b, 0, none⟩), .pointer (some ⟨b + 1, 0, none⟩)] W fun e w' => e = .returned (.tuple #[]) ∧ Blk w' b 2 #[.int .i64 1800000] ∧ Blk w' (b + 1) 9 #[.string ⟨#[49, 104]⟩] ∧ Below b W w' := by
  have c0 : W.cell? ⟨b, 0, none⟩ = some (.int .i64 5400000) := by rw [b0.cell]; rfl
  have c1 : W.cell? ⟨b + 1, 0, none⟩ = some (.string ⟨#[]⟩) := by rw [b1.cell]; rfl
  have f0 := b0.frozen 0
  have f1 := b1.frozen 0
  have a1 : ∀ U : World, (Op.stringOp .add ⟨#[49]⟩ ⟨#[104]⟩).run Tryz.prog U = .ok (.string ⟨#[49, 104]⟩) U := fun U => run_string_add U ⟨#[49]⟩ ⟨#[104]⟩ (by decide) (by decide)
  have a2 : ∀ U : World, (Op.stringOp .add ⟨#[]⟩ ⟨#[49, 104]⟩).run Tryz.prog U = .ok (.string ⟨#[49, 104]⟩) U := fun U => run_string_add U ⟨#[]⟩ ⟨#[49, 104]⟩ (by decide) (by decide)
  have B0 := Lib.hid b0
  have B1 := Lib.hid b1
  clear b0 b1
  go_enter Tryz.func36, Tryz.ntmps36
  go_wp2_with fail
  go_region_with (go_at_call 14; refine (fmt_1 _).mono ?_; rintro e w' ⟨rfl, rfl⟩)
  all_goals
    go_wp2_with fail
  all_goals
    go_end0
    refine ⟨rfl, ((B0.out.far (by simp) _).set_ 0 _).drew, ((B1.out.set_ 0 _).far (by simp) _).drew, (two_sets b W _ _).drew⟩
set_option maxRecDepth 100000 in
theorem tell_m (b : Nat) (W : World) (b0 : Blk W b 2 #[.int .i64 1800000]) (b1 : Blk W (b + 1) 9 #[.string ⟨#[49, 104]⟩]) :
    Calls Tryz.prog 36 #[.string ⟨#[109]⟩, .int .i64 60000, .bool false, .pointer (some ⟨b, 0, none⟩), .pointer (some ⟨b + 1, 0, none⟩)] W fun e w' => e = .returned (.tuple #[]) ∧ Blk w' b 2 #[.int .i64 0] ∧ Blk w' (b + 1) 9 #[.string ⟨#[49, 104, 51, 48, 109]⟩] ∧ Below b W w' := by
  have c0 : W.cell? ⟨b, 0, none⟩ = some (.int .i64 1800000) := by rw [b0.cell]; rfl
  have c1 : W.cell? ⟨b + 1, 0, none⟩ = some (.string ⟨#[49, 104]⟩) := by rw [b1.cell]; rfl
  have f0 := b0.frozen 0
  have f1 := b1.frozen 0
  have a1 : ∀ U : World, (Op.stringOp .add ⟨#[51, 48]⟩ ⟨#[109]⟩).run Tryz.prog U = .ok (.string ⟨#[51, 48, 109]⟩) U := fun U => run_string_add U ⟨#[51, 48]⟩ ⟨#[109]⟩ (by decide) (by decide)
  have a2 : ∀ U : World, (Op.stringOp .add ⟨#[49, 104]⟩ ⟨#[51, 48, 109]⟩).run Tryz.prog U = .ok (.string ⟨#[49, 104, 51, 48, 109]⟩) U := fun U => run_string_add U ⟨#[49, 104]⟩ ⟨#[51, 48, 109]⟩ (by decide) (by decide)
  have B0 := Lib.hid b0
  have B1 := Lib.hid b1
  clear b0 b1
  go_enter Tryz.func36, Tryz.ntmps36
  go_wp2_with fail
  go_region_with (go_at_call 14; refine (fmt_30 _).mono ?_; rintro e w' ⟨rfl, rfl⟩)
  all_goals
    go_wp2_with fail
  all_goals
    go_end0
    refine ⟨rfl, ((B0.out.far (by simp) _).set_ 0 _).drew, ((B1.out.set_ 0 _).far (by simp) _).drew, (two_sets b W _ _).drew⟩
set_option maxRecDepth 100000 in
theorem tell_s (b : Nat) (W : World) (b0 : Blk W b 2 #[.int .i64 0]) :
    Calls Tryz.prog 36 #[.string ⟨#[115]⟩, .int .i64 1000, .bool false, .pointer (some ⟨b, 0, none⟩), .pointer (some ⟨b + 1, 0, none⟩)] W fun e w' => e = .returned (.tuple #[]) ∧ W = w' := by
  have c0 : W.cell? ⟨b, 0, none⟩ = some (.int .i64 0) := by rw [b0.cell]; rfl
  clear b0
  go_enter Tryz.func36, Tryz.ntmps36
  go_wp2_with fail
  first | exact bodyPost_ret (results_none rfl _ _ _) rfl ⟨rfl, rfl⟩ | (go_end0; exact ⟨rfl, rfl⟩)
set_option maxRecDepth 100000 in
theorem tell_ms (b : Nat) (W : World) (b0 : Blk W b 2 #[.int .i64 0]) :
    Calls Tryz.prog 36 #[.string ⟨#[109, 115]⟩, .int .i64 1, .bool false, .pointer (some ⟨b, 0, none⟩), .pointer (some ⟨b + 1, 0, none⟩)] W fun e w' => e = .returned (.tuple #[]) ∧ W = w' := by
  have c0 : W.cell? ⟨b, 0, none⟩ = some (.int .i64 0) := by rw [b0.cell]; rfl
  clear b0
  go_enter Tryz.func36, Tryz.ntmps36
  go_wp2_with fail
  first | exact bodyPost_ret (results_none rfl _ _ _) rfl ⟨rfl, rfl⟩ | (go_end0; exact ⟨rfl, rfl⟩)
end Go.Proofs.YtlnkieokhefkfaaGreatDoor
